/- The reference's map of codes: what it holds, and the law of its look-ups; the bits of bytes one by one. -/
import Derived.Test.YthnaobmepfkkpaaDoorHuf8
import Derived.Test.YthnaobmepfkkpaaDoorEnc
import Derived.Maps.OwnSet
import Derived.WideKeyPair
import Derived.DeepKeys4
namespace Go.Proofs.YthnaobmepfkkpaaDoor
open Go Go.RowKit Go.WideMaps

theorem laidOutP : laidOutB Tryd.prog = true := by kernel_rfl
theorem row46 : (46 : TypeId) < Tryd.prog.types.size := of_decide_eq_true (by kernel_rfl)
theorem cells46 : Tryd.prog.cellsOf 46 = 2 := by kernel_rfl
theorem arrK : ArrKey Tryd.prog 46 3 2 := ⟨Tryd.underlying46, by kernel_rfl, by kernel_rfl, cells46⟩
theorem wideK : (match Tryd.prog.underlying 46 with | some (.array _ _) | some (.struct _) => true | _ => false) = true := by rw [Tryd.underlying46]
set_option maxRecDepth 100000 in
theorem lawK : KeyLaw Tryd.prog 46 := deep_law_laid laidOutP (m := 2) (by omega) row46 (by kernel_rfl) wideK
theorem keyed : Maps.Keyed Tryd.prog 46 := Maps.Keyed.of_law lawK
theorem typesPos : ∃ m, Tryd.prog.types.size = m + 1 := ⟨Tryd.prog.types.size - 1, by have := row46; have h : 0 < Tryd.prog.types.size := Nat.lt_of_le_of_lt (Nat.zero_le _) this; omega⟩

/-- What the key of a length and a code reads as. -/
def kl (a b : Nat) : Lit := .string (keyBytes [.int .i64 (a : Int), .int .i64 (b : Int)])
theorem kl_of {a b : Nat} (ha : a ≤ 4294967296) (hb : b ≤ 4294967296) : keyOf Tryd.prog 46 (.agg #[.int .i64 (a : Int), .int .i64 (b : Int)]) = some (kl a b) :=
  keyOf_pair arrK Tryd.underlying3 typesPos (WalkArith.wf_i64 (by omega)) (WalkArith.wf_i64 (by omega))
theorem kl_inj {a b c d : Nat} (ha : a ≤ 4294967296) (hb : b ≤ 4294967296) (hc : c ≤ 4294967296) (hd : d ≤ 4294967296) (h : kl a b = kl c d) : a = c ∧ b = d := by
  have h1 := kl_of ha hb
  have h2 := kl_of hc hd
  rw [h] at h1
  have := keyed.inj h1 h2
  simp at this
  omega

/-- The map behind the first j symbols. -/
def mapD : Nat → DataW Unit
  | 0 => .map []
  | j + 1 => (mapD j).put (kl (hL j) (hC j)) (.lit (.int .i64 (j : Int)))
theorem mapD_isMap (j : Nat) : Maps.IsMap (mapD j) := by
  cases j with
  | zero => exact ⟨[], rfl⟩
  | succ j =>
    have : Maps.IsMap (mapD j) := mapD_isMap j
    exact this.put _ _
theorem h_small {s : Nat} (h : s < 257) : hL s ≤ 4294967296 ∧ hC s ≤ 4294967296 := by
  have h1 := (code.pos s h).2
  have h2 := hC_lt s h
  omega
theorem mapD_has {a b : Nat} (ha : a ≤ 4294967296) (hb : b ≤ 4294967296) : ∀ j, j ≤ 257 → (Maps.has (mapD j) (kl a b) = true ↔ ∃ s, s < j ∧ hL s = a ∧ hC s = b)
  | 0, _ => by
    constructor
    · intro h; cases h
    · rintro ⟨s, h, _⟩; omega
  | j + 1, hj => by
    have ih := mapD_has ha hb j (by omega)
    obtain ⟨h1, h2⟩ := h_small (s := j) (by omega)
    unfold mapD
    by_cases he : hL j = a ∧ hC j = b
    · obtain ⟨rfl, rfl⟩ := he
      rw [Maps.has_put_same (mapD_isMap j) (by trivial)]
      exact ⟨fun _ => ⟨j, by omega, rfl, rfl⟩, fun _ => rfl⟩
    · rw [Maps.has_put_other (fun e => he (by obtain ⟨e1, e2⟩ := kl_inj ha hb h1 h2 e; exact ⟨e1.symm, e2.symm⟩))]
      rw [ih]
      constructor
      · rintro ⟨s, h, e⟩; exact ⟨s, by omega, e⟩
      · rintro ⟨s, h, e⟩
        refine ⟨s, ?_, e⟩
        rcases Nat.lt_or_ge s j with h' | h'
        · exact h'
        · obtain rfl : s = j := by omega
          exact absurd e he
theorem code_one {s t : Nat} (hs : s < 257) (ht : t < 257) (h1 : hL s = hL t) (h2 : hC s = hC t) : s = t :=
  code.free s t hs ht (by omega) (by rw [h1, Nat.sub_self, Nat.pow_zero, Nat.div_one, h2])
theorem mapD_at {s : Nat} (z : DataW Unit) : ∀ j, j ≤ 257 → s < j → (mapD j).atKey (kl (hL s) (hC s)) z = .lit (.int .i64 (s : Int))
  | 0, _, h => by omega
  | j + 1, hj, h => by
    unfold mapD
    by_cases he : s = j
    · subst he
      exact Maps.atKey_put_same (mapD_isMap s) (by trivial) _ _
    · have hs : s < 257 := by omega
      have hj' : j < 257 := by omega
      rw [Maps.atKey_put_other (fun e => he (by
        obtain ⟨e1, e2⟩ := kl_inj (h_small hs).1 (h_small hs).2 (h_small hj').1 (h_small hj').2 e
        exact code_one hs hj' e1 e2))]
      exact mapD_at z j (by omega) (by omega)
/-- The look-up as a function. -/
def look (a b : Nat) : Option Nat := (List.range 257).find? fun s => decide (hL s = a ∧ hC s = b)
theorem look_Look : Look hL hC look := fun k n s => by
  unfold look
  constructor
  · intro h
    have h1 := List.find?_some h
    have h2 := List.mem_of_find?_eq_some h
    simp at h1 h2
    exact ⟨h2, h1⟩
  · rintro ⟨h1, h2, h3⟩
    cases h : (List.range 257).find? fun s => decide (hL s = k ∧ hC s = n) with
    | none =>
      have := List.find?_eq_none.1 h s (List.mem_range.2 h1)
      simp [h2, h3] at this
    | some t =>
      have e1 := List.find?_some h
      have e2 := List.mem_of_find?_eq_some h
      simp at e1 e2
      rw [code_one e2 h1 (by omega) (by omega)]
theorem look_hit {a b s : Nat} (h : look a b = some s) : s < 257 ∧ hL s = a ∧ hC s = b := (look_Look a b s).1 h
theorem look_miss {a b : Nat} (h : look a b = none) : ¬ ∃ s, s < 257 ∧ hL s = a ∧ hC s = b := by
  rintro ⟨s, h1, h2, h3⟩
  rw [(look_Look a b s).2 ⟨h1, h2, h3⟩] at h
  cases h

theorem zeroI (w : World) : (zeroValue 3).run Tryd.prog w = .ok (.int .i64 0) w := by kernel_rfl
/-- Block b holds the map behind the first j symbols. -/
def OwnM (w : World) (b j : Nat) : Prop := w.ownsMap Tryd.prog 46 (plainElem Tryd.prog 3) b j (mapD j)
theorem OwnM.new (w : World) : OwnM (w.alloc (.map #[] 0)) w.heap.size 0 := World.ownsMap_made _ _ _ _
theorem OwnM.lt {w : World} {b j : Nat} (h : OwnM w b j) : b < w.heap.size := World.ownsMap.lt h
theorem OwnM.keep {w w' : World} {b j : Nat} (h : OwnM w b j) (hk : w'.heap[b]? = w.heap[b]?) : OwnM w' b j := by
  obtain ⟨es, clock, hb, r⟩ := h
  exact ⟨es, clock, hk.trans hb, r⟩
theorem OwnM.below {w w' : World} {b j B : Nat} (h : OwnM w b j) (hb : Below B w w') (hB : b < B) : OwnM w' b j := h.keep (hb.block b hB)

section
variable (w : World) {ops : Array Oper} {rest : List Oper} {o : Oper} {a : Act} {Q : Exit → Act → World → Prop}
theorem wpList_store (hg : o.guard = none) (m x v : Operand) (hop : o.op = Op.mapUpdate 45 m x v) (b j : Nat) (hj : j < 257) (hown : OwnM w b j) (hm : a.eval m = .map (some b))
    (hx : a.eval x = .agg #[.int .i64 (hL j : Nat), .int .i64 (hC j : Nat)]) (hv : a.eval v = .int .i64 (j : Int))
    (hK : ∀ w', OwnM w' b (j + 1) → w.grownBy w' (some b) → wpList Tryd.prog ops Q rest (a.put o.dst undef) w') : wpList Tryd.prog ops Q (o :: rest) a w :=
  wpList_mapUpdate_own w hg m x v 45 hop 46 3 keyed Tryd.underlying45 _ b j _ hm hown (by unfold maxLen; omega) _ _ _ hx hv (kl_of (h_small hj).1 (h_small hj).2) _ [] (plainElem_int Tryd.underlying3 (WalkArith.wf_i64 (by omega))) hK
set_option maxRecDepth 100000 in
theorem wpList_hit (hg : o.guard = none) (m x : Operand) (hop : o.op = Op.lookup 45 m x true) (b p n s : Nat) (hown : OwnM w b 257) (hm : a.eval m = .map (some b)) (hp : p ≤ 4294967296) (hn : n ≤ 4294967296)
    (pI nI : Int) (hpI : pI = p) (hnI : nI = n) (hx : a.eval x = .agg #[.int .i64 pI, .int .i64 nI]) (hl : look p n = some s)
    (hK : wpList Tryd.prog ops Q rest (a.put o.dst (.tuple #[.int .i64 (s : Int), .bool true])) w) : wpList Tryd.prog ops Q (o :: rest) a w := by
  subst hpI hnI
  obtain ⟨h1, h2, h3⟩ := look_hit hl
  refine wpList_lookup_own_ok_int w hg m x 45 hop 46 3 .i64 keyed Tryd.underlying45 Tryd.underlying3 (zeroI w) b 257 _ hm hown _ _ hx (kl_of hp hn) fun c hc _ => ?_
  have e1 := mapD_at (s := s) (.lit (.int .i64 0)) 257 (by omega) h1
  rw [h2, h3, hc] at e1
  have e2 : c = s := by injection e1 with e; injection e
  rw [(mapD_has hp hn 257 (by omega)).2 ⟨s, h1, h2, h3⟩, e2]
  exact hK
set_option maxRecDepth 100000 in
theorem wpList_miss (hg : o.guard = none) (m x : Operand) (hop : o.op = Op.lookup 45 m x true) (b p n : Nat) (hown : OwnM w b 257) (hm : a.eval m = .map (some b)) (hp : p ≤ 4294967296) (hn : n ≤ 4294967296)
    (pI nI : Int) (hpI : pI = p) (hnI : nI = n) (hx : a.eval x = .agg #[.int .i64 pI, .int .i64 nI]) (hl : look p n = none)
    (hK : wpList Tryd.prog ops Q rest (a.put o.dst (.tuple #[.int .i64 0, .bool false])) w) : wpList Tryd.prog ops Q (o :: rest) a w := by
  subst hpI hnI
  have h0 := look_miss hl
  have e0 : Maps.has (mapD 257) (kl p n) = false := by
    cases h : Maps.has (mapD 257) (kl p n) with
    | false => rfl
    | true => exact absurd ((mapD_has hp hn 257 (by omega)).1 h) h0
  refine wpList_lookup_own_ok_int w hg m x 45 hop 46 3 .i64 keyed Tryd.underlying45 Tryd.underlying3 (zeroI w) b 257 _ hm hown _ _ hx (kl_of hp hn) fun c hc _ => ?_
  have e1 := Maps.atKey_of_not_has e0 (.lit (.int .i64 0))
  rw [hc] at e1
  have e2 : c = 0 := by injection e1 with e; injection e
  rw [e0, e2]
  exact hK
end

/-- Bit i of bytes. -/
def bitAt (ys : List Nat) (i : Nat) : Nat := ys.getD (i / 8) 0 / 2 ^ (7 - i % 8) % 2
theorem bitsN_get (x : Nat) : ∀ (k i : Nat), i < k → (bitsN x k)[i]? = some (x / 2 ^ (k - 1 - i) % 2)
  | 0, i, h => by omega
  | k + 1, 0, _ => by simp [bitsN]
  | k + 1, i + 1, h => by
    simp only [bitsN, List.getElem?_cons_succ]
    rw [bitsN_get x k i (by omega), show k + 1 - 1 - (i + 1) = k - 1 - i by omega]
theorem bitsB_get : ∀ (ys : List Nat) (i : Nat), i < 8 * ys.length → (bitsB ys)[i]? = some (bitAt ys i)
  | [], i, h => by simp at h
  | y :: ys, i, h => by
    simp only [bitsB]
    by_cases hi : i < 8
    · rw [List.getElem?_append_left (by rw [bitsN_length]; exact hi), bitsN_get _ _ _ hi]
      unfold bitAt
      rw [show i / 8 = 0 by omega, show i % 8 = i by omega]
      rfl
    · rw [List.getElem?_append_right (by rw [bitsN_length]; omega), bitsN_length, bitsB_get ys (i - 8) (by simp at h; omega)]
      unfold bitAt
      rw [show i / 8 = (i - 8) / 8 + 1 by omega, show (i - 8) % 8 = i % 8 by omega]
      rfl
theorem bits_take {ys : List Nat} {i : Nat} (h : i < 8 * ys.length) : (bitsB ys).take (i + 1) = (bitsB ys).take i ++ [bitAt ys i] := by
  rw [List.take_add_one, bitsB_get ys i h]; rfl
theorem bitAt_le (ys : List Nat) (i : Nat) : bitAt ys i ≤ 1 := by unfold bitAt; omega

/-- What is kept from bit to bit. -/
structure Kept (bs : List Nat) (st : List Nat × Nat × Nat) : Prop where
  long : st.2.1 ≤ 30
  lt : st.2.2 < 2 ^ st.2.1
  bytes : ∀ x ∈ st.1, x < 256
  len : st.1.length ≤ bs.length
theorem Kept.step {bs : List Nat} {st st' : List Nat × Nat × Nat} {b : Nat} (h : Kept bs st) (hb : b ≤ 1) (hs : step look st b = some st') : Kept (bs ++ [b]) st' := by
  unfold Proofs.YthnaobmepfkkpaaDoor.step at hs
  split at hs
  · cases hs
  · rename_i h30
    split at hs
    · rename_i s hl
      split at hs
      · cases hs
      · rename_i h256
        have := (look_hit hl).1
        injection hs with hs
        subst hs
        refine ⟨by simp, by simp, fun x hx => ?_, by have := h.len; simp; omega⟩
        rcases List.mem_append.1 hx with hx | hx
        · exact h.bytes x hx
        · simp at hx; omega
    · injection hs with hs
      subst hs
      refine ⟨by simp; omega, ?_, h.bytes, by have := h.len; simp; omega⟩
      have := h.lt
      simp only [Nat.pow_succ]
      omega
theorem Kept.steps : ∀ {bs cs : List Nat} {st st' : List Nat × Nat × Nat}, Kept bs st → (∀ c ∈ cs, c ≤ 1) → steps look cs st = some st' → Kept (bs ++ cs) st'
  | bs, [], st, st', h, _, hs => by
    simp only [Proofs.YthnaobmepfkkpaaDoor.steps] at hs
    injection hs with hs
    subst hs
    simpa using h
  | bs, c :: cs, st, st', h, hc, hs => by
    simp only [Proofs.YthnaobmepfkkpaaDoor.steps] at hs
    split at hs
    · cases hs
    · rename_i st1 h1
      have := Kept.steps (h.step (hc c (by simp)) h1) (fun d hd => hc d (by simp [hd])) hs
      simpa using this
theorem Kept.nil : Kept [] ([], 0, 0) := ⟨by simp, by simp, (fun _ h => by cases h), by simp⟩
theorem steps_snoc {cs : List Nat} {b : Nat} {st st1 : List Nat × Nat × Nat} (h : steps look cs st = some st1) : steps look (cs ++ [b]) st = step look st1 b := by
  rw [steps_append, h]
  simp only [steps]
  cases step look st1 b <;> rfl
/-- Whatever follows: once an error, always one. -/
theorem steps_none {cs ds : List Nat} {st : List Nat × Nat × Nat} (h : steps look cs st = none) : steps look (cs ++ ds) st = none := by
  rw [steps_append, h]
end Go.Proofs.YthnaobmepfkkpaaDoor
