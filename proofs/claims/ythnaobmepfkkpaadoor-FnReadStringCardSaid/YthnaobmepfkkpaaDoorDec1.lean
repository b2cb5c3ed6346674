/- Plain numbers: the tree by bytes of a Huffman code, and how a decoder that goes by it stands to the reference that goes by bits. No program stands here. -/
import Derived.Test.YthnaobmepfkkpaaDoorStr3
namespace Go.Proofs.YthnaobmepfkkpaaDoor
open Go Go.RowKit

/-- A number of n + 1 bits. -/
def Sz (n u : Nat) : Prop := 2 ^ n ≤ u ∧ u < 2 ^ (n + 1)
theorem Sz.uniq {n m u : Nat} (h : Sz n u) (k : Sz m u) : n = m := by
  obtain ⟨h1, h2⟩ := h
  obtain ⟨k1, k2⟩ := k
  have a : n < m + 1 := (Nat.pow_lt_pow_iff_right (by decide : 1 < 2)).1 (Nat.lt_of_le_of_lt h1 k2)
  have b : m < n + 1 := (Nat.pow_lt_pow_iff_right (by decide : 1 < 2)).1 (Nat.lt_of_le_of_lt k1 h2)
  omega
theorem Sz.up {n k u : Nat} (h : Sz n (u / 2 ^ k)) : Sz (n + k) u := by
  obtain ⟨h1, h2⟩ := h
  have hp := Nat.two_pow_pos k
  refine ⟨?_, ?_⟩
  · rw [Nat.pow_add]
    exact Nat.le_trans (Nat.mul_le_mul_right _ h1) (Nat.div_mul_le_self _ _)
  · rw [show n + k + 1 = (n + 1) + k by omega, Nat.pow_add]
    exact (Nat.div_lt_iff_lt_mul hp).1 h2
theorem div_add_pow {n k P : Nat} (hk : k ≤ n) : (2 ^ n + P) / 2 ^ k = 2 ^ (n - k) + P / 2 ^ k := by
  have hp := Nat.two_pow_pos k
  rw [show 2 ^ n = 2 ^ k * 2 ^ (n - k) by rw [← Nat.pow_add]; congr 1; omega, Nat.mul_add_div hp]
theorem Sz.mk {n P : Nat} (h : P < 2 ^ n) : Sz n (2 ^ n + P) := ⟨by omega, by rw [Nat.pow_succ]; omega⟩

/-- How a code's length parts into whole bytes and a rest of 1 to 8 bits. -/
def rem8 (t : Nat) : Nat := (hL t - 1) % 8 + 1
def lev (t : Nat) : Nat := (hL t - 1) / 8
theorem lr {t : Nat} (h : t < 257) : hL t = 8 * lev t + rem8 t ∧ 1 ≤ rem8 t ∧ rem8 t ≤ 8 ∧ lev t ≤ 3 := by
  have := code.pos t h
  unfold lev rem8
  omega
/-- A code with a one ahead of it. -/
def cx (t : Nat) : Nat := 2 ^ hL t + hC t
/-- The node at depth d on the way to t. -/
def pre (t d : Nat) : Nat := cx t / 2 ^ (hL t - 8 * d)
def HasN (S κ : Nat) : Prop := κ = 1 ∨ ∃ t d, t < S ∧ d ≤ lev t ∧ κ = pre t d
def LeafN (S u t : Nat) : Prop := t < S ∧ u / 2 ^ (8 - rem8 t) = cx t
theorem cx_sz {t : Nat} (h : t < 257) : Sz (hL t) (cx t) := Sz.mk (code.lt t h)
theorem pre_eq {t d : Nat} (h : t < 257) (hd : d ≤ lev t) : pre t d = 2 ^ (8 * d) + hC t / 2 ^ (hL t - 8 * d) := by
  obtain ⟨h1, _⟩ := lr h
  unfold pre cx
  rw [div_add_pow (by omega), show hL t - (hL t - 8 * d) = 8 * d by omega]
theorem div_lt_pow {C n k : Nat} (h : C < 2 ^ n) (hk : k ≤ n) : C / 2 ^ k < 2 ^ (n - k) := by
  rw [Nat.div_lt_iff_lt_mul (Nat.two_pow_pos k), ← Nat.pow_add]
  rw [show n - k + k = n by omega]
  exact h
theorem pre_sz {t d : Nat} (h : t < 257) (hd : d ≤ lev t) : Sz (8 * d) (pre t d) := by
  obtain ⟨h1, _⟩ := lr h
  rw [pre_eq h hd]
  refine Sz.mk ?_
  have := div_lt_pow (k := hL t - 8 * d) (code.lt t h) (by omega)
  rwa [show hL t - (hL t - 8 * d) = 8 * d by omega] at this
theorem HasN.sz {κ : Nat} (h : HasN 256 κ) : ∃ d, d ≤ 3 ∧ Sz (8 * d) κ := by
  rcases h with rfl | ⟨t, d, ht, hd, rfl⟩
  · exact ⟨0, by omega, ⟨by decide, by decide⟩⟩
  · exact ⟨d, by have := (lr (t := t) (by omega)).2.2.2; omega, pre_sz (by omega) hd⟩
theorem LeafN.sz {S u t : Nat} (h : LeafN S u t) (hS : S ≤ 256) : Sz (8 * (lev t + 1)) u := by
  obtain ⟨h1, h2⟩ := h
  obtain ⟨l1, l2, l3, _⟩ := lr (t := t) (by omega)
  have := cx_sz (t := t) (by omega)
  rw [← h2] at this
  have := this.up
  rwa [show hL t + (8 - rem8 t) = 8 * (lev t + 1) by omega] at this

/-- Bits of a number, and the code of a symbol at their head. -/
theorem bits_pref {Q ℓ L C : Nat} (hL : L ≤ ℓ) : bitsN C L = (bitsN Q ℓ).take L ↔ bitsN C L = bitsN (Q / 2 ^ (ℓ - L)) L := by
  have h := bitsN_add Q L (ℓ - L)
  rw [show L + (ℓ - L) = ℓ by omega] at h
  rw [h, List.take_append_of_le_length (by rw [bitsN_length]; exact Nat.le_refl _), List.take_of_length_le (by rw [bitsN_length]; exact Nat.le_refl _)]
/-- The number of bits. -/
def numB : List Nat → Nat
  | [] => 0
  | b :: r => b * 2 ^ r.length + numB r
theorem numB_bitsN (x k : Nat) : numB (bitsN x k) = x % 2 ^ k := by
  induction k with
  | zero => simp [bitsN, numB, Nat.mod_one]
  | succ k ih =>
    simp only [bitsN, numB, bitsN_length, ih]
    rw [Nat.pow_succ, Nat.mul_comm (x / 2 ^ k % 2), Nat.mod_mul, Nat.add_comm]
theorem numB_snoc (W : List Nat) (b : Nat) : numB (W ++ [b]) = numB W * 2 + b := by
  induction W with
  | nil => simp [numB]
  | cons a W ih => simp only [List.cons_append, numB, ih, List.length_append, List.length_cons, List.length_nil, Nat.pow_succ, Nat.add_mul, Nat.mul_assoc]; omega
theorem bitsN_numB (W : List Nat) (h : ∀ b ∈ W, b ≤ 1) : bitsN (numB W) W.length = W := by
  induction W with
  | nil => rfl
  | cons a W ih =>
    have hlt : numB W < 2 ^ W.length := by
      have e := ih (fun b hb => h b (by simp [hb]))
      have := numB_bitsN (numB W) W.length
      rw [e] at this
      rw [this]; exact Nat.mod_lt _ (Nat.two_pow_pos _)
    have ha := h a (by simp)
    simp only [numB, List.length_cons, bitsN]
    have hp := Nat.two_pow_pos W.length
    have e1 : (a * 2 ^ W.length + numB W) / 2 ^ W.length % 2 = a := by
      rw [Nat.mul_comm, Nat.mul_add_div hp, Nat.div_eq_of_lt hlt]; omega
    have e2 : bitsN (a * 2 ^ W.length + numB W) W.length = W := by
      rw [← bitsN_mod _ _ W.length (Nat.le_refl _), Nat.mul_comm, Nat.mul_add_mod, Nat.mod_eq_of_lt hlt]
      exact ih fun b hb => h b (by simp [hb])
    rw [e1, e2]
/-- No symbol's code at the head: nothing is found. -/
theorem nohit {W : List Nat} (hW : ∀ b ∈ W, b ≤ 1) (hn : ∀ s, s < 256 → ¬ bitsN (hC s) (hL s) <+: W) (acc : List Nat) :
    (steps look W (acc, 0, 0) = none ∨ steps look W (acc, 0, 0) = some (acc, W.length, numB W)) ∧ (W.length < 30 → steps look W (acc, 0, 0) = some (acc, W.length, numB W)) := by
  induction hm : W.length generalizing W with
  | zero =>
    have : W = [] := List.eq_nil_of_length_eq_zero hm
    subst this
    exact ⟨.inr rfl, fun _ => rfl⟩
  | succ m ih =>
    obtain ⟨V, b, rfl⟩ : ∃ V b, W = V ++ [b] := ⟨W.dropLast, W.getLast (by intro e; subst e; simp at hm), (List.dropLast_concat_getLast _).symm⟩
    have hV : V.length = m := by simpa using hm
    have ih := ih (W := V) (fun c hc => hW c (by simp [hc])) (fun s hs hp => hn s hs (hp.trans (List.prefix_append _ _))) hV
    have key : steps look V (acc, 0, 0) = some (acc, m, numB V) → (steps look (V ++ [b]) (acc, 0, 0) = none ∨ steps look (V ++ [b]) (acc, 0, 0) = some (acc, m + 1, numB (V ++ [b]))) ∧ (m + 1 < 30 → steps look (V ++ [b]) (acc, 0, 0) = some (acc, m + 1, numB (V ++ [b]))) := by
      intro h
      rw [steps_snoc h]
      have hs : ∀ s, look (m + 1) (numB (V ++ [b])) = some s → s = 256 ∧ m + 1 = 30 := by
        intro s hl
        obtain ⟨h1, h2, h3⟩ := look_hit hl
        by_cases h256 : s = 256
        · subst h256; exact ⟨rfl, by rw [← h2, code.eosL]⟩
        · exfalso
          refine hn s (by omega) ?_
          have := bitsN_numB _ hW
          rw [hm] at this
          rw [h2, h3, this]
          exact List.prefix_refl _
      unfold step
      simp only
      rw [← numB_snoc]
      by_cases h30 : 30 < m + 1
      · rw [if_pos h30]
        exact ⟨.inl rfl, fun h => by omega⟩
      · rw [if_neg h30]
        cases hl : look (m + 1) (numB (V ++ [b])) with
        | none => exact ⟨.inr rfl, fun _ => rfl⟩
        | some s =>
          obtain ⟨rfl, h2⟩ := hs s hl
          exact ⟨.inl rfl, fun h => by omega⟩
    rcases ih.1 with h | h
    · refine ⟨.inl (steps_none h), fun hlt => ?_⟩
      have := ih.2 (by omega)
      rw [h] at this; cases this
    · exact key h

/-- How the decoder stands: of the bits so far those up to the last whole symbol are read; sb bits are pending; cb of them are not yet gone down the tree, whose node κ is reached. -/
structure Dst (bs acc : List Nat) (sb cb cur κ : Nat) : Prop where
  ex : ∃ done P, bs = done ++ bitsN P sb ∧ P < 2 ^ sb ∧ steps look done ([], 0, 0) = some (acc, 0, 0) ∧ cb ≤ sb ∧ κ = 2 ^ (sb - cb) + P / 2 ^ cb ∧ cur % 2 ^ cb = P % 2 ^ cb
  has : HasN 256 κ
theorem Dst.start (cur : Nat) : Dst [] [] 0 0 cur 1 := ⟨⟨[], 0, rfl, by simp, rfl, Nat.le_refl _, rfl, by simp [Nat.mod_one]⟩, .inl rfl⟩
theorem Dst.sz {bs acc : List Nat} {sb cb cur κ : Nat} (h : Dst bs acc sb cb cur κ) : ∃ d, d ≤ 3 ∧ sb = cb + 8 * d ∧ Sz (8 * d) κ := by
  obtain ⟨⟨done, P, _, hP, _, hcb, hκ, _⟩, hh⟩ := h
  obtain ⟨d, hd, hs⟩ := hh.sz
  have hs2 : Sz (sb - cb) κ := by rw [hκ]; exact Sz.mk (div_lt_pow hP hcb)
  have := hs.uniq hs2
  exact ⟨d, hd, by omega, hs⟩
theorem Dst.byte {bs acc : List Nat} {sb cb cur κ y cur' : Nat} (h : Dst bs acc sb cb cur κ) (hy : y < 256) (hc : cur' % 2 ^ (cb + 8) = (cur * 256 + y) % 2 ^ (cb + 8)) : Dst (bs ++ bitsN y 8) acc (sb + 8) (cb + 8) cur' κ := by
  obtain ⟨⟨done, P, hb, hP, hst, hcb, hκ, hcur⟩, hh⟩ := h
  have hp := Nat.two_pow_pos cb
  refine ⟨⟨done, P * 256 + y, ?_, ?_, hst, by omega, ?_, ?_⟩, hh⟩
  · rw [hb, List.append_assoc]
    congr 1
    exact (bitsN_join P y sb 8 hy).symm
  · rw [Nat.pow_add]; omega
  · rw [hκ, show sb + 8 - (cb + 8) = sb - cb by omega, Nat.add_comm cb 8, Nat.pow_add]
    congr 1
    rw [← Nat.div_div_eq_div_mul]
    congr 1
    omega
  · rw [hc, Nat.add_comm cb 8, Nat.pow_add, show (2 : Nat) ^ 8 = 256 from rfl, Nat.mod_mul, Nat.mod_mul (x := P * 256 + y), show (cur * 256 + y) % 256 = y by omega, show (P * 256 + y) % 256 = y by omega, show (cur * 256 + y) / 256 = cur by omega, show (P * 256 + y) / 256 = P by omega, hcur]
/-- The child's number, while there are eight bits. -/
theorem Dst.child {bs acc : List Nat} {sb cb cur κ : Nat} (h : Dst bs acc sb cb cur κ) (h8 : 8 ≤ cb) :
    ∃ done P, bs = done ++ bitsN P sb ∧ P < 2 ^ sb ∧ steps look done ([], 0, 0) = some (acc, 0, 0) ∧ cb ≤ sb ∧ cur % 2 ^ cb = P % 2 ^ cb ∧ κ * 256 + cur / 2 ^ (cb - 8) % 256 = 2 ^ (sb - (cb - 8)) + P / 2 ^ (cb - 8) ∧ κ = 2 ^ (sb - cb) + P / 2 ^ cb := by
  obtain ⟨⟨done, P, hb, hP, hst, hcb, hκ, hcur⟩, hh⟩ := h
  refine ⟨done, P, hb, hP, hst, hcb, hcur, ?_, hκ⟩
  have e1 : cur / 2 ^ (cb - 8) % 256 = P / 2 ^ (cb - 8) % 256 := by
    have h1 : ∀ j x : Nat, x / 2 ^ j % 256 = x % 2 ^ (j + 8) / 2 ^ j := by
      intro j x
      rw [Nat.pow_add, Nat.mod_mul_right_div_self]
    rw [h1, h1, show cb - 8 + 8 = cb by omega, hcur]
  rw [e1, hκ, Nat.add_mul, Nat.add_assoc]
  congr 1
  · rw [show sb - (cb - 8) = sb - cb + 8 by omega, Nat.pow_add]
  · rw [show P / 2 ^ cb = P / 2 ^ (cb - 8) / 256 by rw [Nat.div_div_eq_div_mul, show (256 : Nat) = 2 ^ 8 from rfl, ← Nat.pow_add]; congr 2; omega]
    omega
/-- A leaf is met: what is pending begins with the symbol's code. -/
theorem leaf_code {sb k P t S : Nat} (hS : S ≤ 256) (hP : P < 2 ^ sb) (hk : k ≤ sb) (h : LeafN S (2 ^ (sb - k) + P / 2 ^ k) t) : 8 * (lev t + 1) = sb - k ∧ hL t ≤ sb ∧ P / 2 ^ (sb - hL t) = hC t := by
  have hsz := h.sz hS
  have hsz2 : Sz (sb - k) (2 ^ (sb - k) + P / 2 ^ k) := Sz.mk (div_lt_pow hP hk)
  have e := hsz.uniq hsz2
  obtain ⟨h1, h2⟩ := h
  obtain ⟨l1, l2, l3, _⟩ := lr (t := t) (by omega)
  have e2 : sb - k - (8 - rem8 t) = hL t := by omega
  refine ⟨e, by omega, ?_⟩
  rw [div_add_pow (by omega), e2, Nat.div_div_eq_div_mul, ← Nat.pow_add, show k + (8 - rem8 t) = sb - hL t by omega] at h2
  unfold cx at h2
  omega
theorem Dst.sym {bs acc done : List Nat} {sb P t cur : Nat} (hb : bs = done ++ bitsN P sb) (hst : steps look done ([], 0, 0) = some (acc, 0, 0)) (ht : t < 256) (hL' : hL t ≤ sb) (hC' : P / 2 ^ (sb - hL t) = hC t) (hcur : cur % 2 ^ (sb - hL t) = P % 2 ^ (sb - hL t)) : Dst bs (acc ++ [t]) (sb - hL t) (sb - hL t) cur 1 := by
  refine ⟨⟨done ++ bitsN (hC t) (hL t), P % 2 ^ (sb - hL t), ?_, Nat.mod_lt _ (Nat.two_pow_pos _), ?_, Nat.le_refl _, ?_, by rw [hcur, Nat.mod_mod]⟩, .inl rfl⟩
  · have := bitsN_add P (hL t) (sb - hL t)
    rw [show hL t + (sb - hL t) = sb by omega, hC'] at this
    rw [hb, this, bitsN_mod _ _ _ (Nat.le_refl _), List.append_assoc]
  · rw [steps_append, hst]
    exact read_one code look_Look ht acc
  · rw [Nat.sub_self, Nat.div_eq_of_lt (Nat.mod_lt _ (Nat.two_pow_pos _))]
theorem mod_mod_pow {a b n k : Nat} (h : a % 2 ^ n = b % 2 ^ n) (hk : k ≤ n) : a % 2 ^ k = b % 2 ^ k := by
  have hd : 2 ^ k ∣ 2 ^ n := Nat.pow_dvd_pow 2 hk
  rw [← Nat.mod_mod_of_dvd a hd, ← Nat.mod_mod_of_dvd b hd, h]
theorem Dst.leaf {bs acc : List Nat} {sb cb cur κ t : Nat} (h : Dst bs acc sb cb cur κ) (h8 : 8 ≤ cb) (hl : LeafN 256 (κ * 256 + cur / 2 ^ (cb - 8) % 256) t) : Dst bs (acc ++ [t]) (cb - rem8 t) (cb - rem8 t) cur 1 := by
  obtain ⟨d, hd, hsb, _⟩ := h.sz
  obtain ⟨done, P, hb, hP, hst, hcb, hcur, hu, _⟩ := h.child h8
  rw [hu] at hl
  obtain ⟨e1, e2, e3⟩ := leaf_code (Nat.le_refl _) hP (by omega) hl
  obtain ⟨l1, l2, l3, _⟩ := lr (t := t) (by have := hl.1; omega)
  have e4 : sb - hL t = cb - rem8 t := by omega
  rw [← e4]
  exact Dst.sym hb hst hl.1 e2 e3 (mod_mod_pow hcur (by omega))
theorem Dst.node {bs acc : List Nat} {sb cb cur κ : Nat} (h : Dst bs acc sb cb cur κ) (h8 : 8 ≤ cb) (hn : HasN 256 (κ * 256 + cur / 2 ^ (cb - 8) % 256)) : Dst bs acc sb (cb - 8) cur (κ * 256 + cur / 2 ^ (cb - 8) % 256) := by
  obtain ⟨done, P, hb, hP, hst, hcb, hcur, hu, _⟩ := h.child h8
  exact ⟨⟨done, P, hb, hP, hst, by omega, hu, mod_mod_pow hcur (by omega)⟩, hn⟩
/-- No symbol's code stands at the head of what is pending, or what is pending at its head. -/
theorem no_pref {sb k P κ : Nat} (hP : P < 2 ^ sb) (hk : k ≤ sb) (hκ : HasN 256 κ) (hq : κ = 2 ^ (sb - k - 8) + P / 2 ^ (k + 8)) (hk8 : k + 8 ≤ sb) (hn : ¬ HasN 256 (2 ^ (sb - k) + P / 2 ^ k)) (hl : ∀ t, ¬ LeafN 256 (2 ^ (sb - k) + P / 2 ^ k) t)
    (more : List Nat) (s : Nat) (hs : s < 256) : ¬ bitsN (hC s) (hL s) <+: bitsN (P / 2 ^ k) (sb - k) ++ more := by
  intro hp
  obtain ⟨l1, l2, l3, l4⟩ := lr (t := s) (by omega)
  obtain ⟨d, hd, hsz⟩ := hκ.sz
  have hsz2 : Sz (sb - k - 8) κ := by
    rw [hq, show sb - k - 8 = sb - (k + 8) by omega]; exact Sz.mk (div_lt_pow hP hk8)
  have ed := hsz.uniq hsz2
  have hCs := code.lt s (by omega)
  have htk := List.prefix_iff_eq_take.1 hp
  rw [bitsN_length] at htk
  by_cases hle : hL s ≤ sb - k
  · have h1 : hC s = P / 2 ^ k / 2 ^ (sb - k - hL s) := by
      rw [List.take_append_of_le_length (by rw [bitsN_length]; exact hle)] at htk
      rw [bits_pref hle] at htk
      refine bitsN_inj hCs ?_ htk
      have := div_lt_pow (k := sb - k - hL s) (div_lt_pow hP hk) (by omega)
      rwa [show sb - k - (sb - k - hL s) = hL s by omega] at this
    rw [Nat.div_div_eq_div_mul, ← Nat.pow_add] at h1
    by_cases hin : hL s ≤ sb - k - 8
    · -- a code that ends at or above κ
      rcases hκ with rfl | ⟨t, d', ht, hd', e⟩
      · have : Sz 0 1 := ⟨by decide, by decide⟩
        have := this.uniq hsz2
        omega
      · obtain ⟨m1, m2, m3, m4⟩ := lr (t := t) (by omega)
        have es := (pre_sz (by omega) hd').uniq (by rw [← e]; exact hsz2)
        have e2 := pre_eq (t := t) (by omega) hd'
        rw [← e, hq, show sb - k - 8 = 8 * d' by omega] at e2
        have e3 : P / 2 ^ (k + 8) = hC t / 2 ^ (hL t - 8 * d') := by omega
        have hfree := code.free t s (by omega) (by omega) (by omega) (by
          rw [h1, show k + (sb - k - hL s) = (k + 8) + (8 * d' - hL s) by omega, Nat.pow_add, ← Nat.div_div_eq_div_mul, e3, Nat.div_div_eq_div_mul, ← Nat.pow_add]
          congr 2; omega)
        subst hfree
        omega
    · refine hl s ⟨hs, ?_⟩
      have e1 : 8 - rem8 s = sb - k - hL s := by omega
      rw [e1, div_add_pow (by omega), Nat.div_div_eq_div_mul, ← Nat.pow_add, ← h1]
      unfold cx
      congr 2; omega
  · refine hn (.inr ⟨s, (sb - k) / 8, hs, by omega, ?_⟩)
    have e8 : 8 * ((sb - k) / 8) = sb - k := by omega
    rw [pre_eq (by omega) (by omega), e8]
    congr 1
    have h1 : bitsN (P / 2 ^ k) (sb - k) = (bitsN (hC s) (hL s)).take (sb - k) := by
      have := congrArg (List.take (sb - k)) htk
      rw [List.take_take, Nat.min_eq_left (by omega), List.take_append_of_le_length (by rw [bitsN_length]; exact Nat.le_refl _), List.take_of_length_le (l := bitsN (P / 2 ^ k) (sb - k)) (by rw [bitsN_length]; exact Nat.le_refl _)] at this
      exact this.symm
    rw [bits_pref (by omega)] at h1
    refine bitsN_inj (div_lt_pow hP hk) ?_ h1
    have := div_lt_pow (k := hL s - (sb - k)) hCs (by omega)
    rwa [show hL s - (hL s - (sb - k)) = sb - k by omega] at this
/-- An error is one whatever follows. -/
theorem Dst.dead {bs acc : List Nat} {sb cb cur κ : Nat} (h : Dst bs acc sb cb cur κ) (h8 : 8 ≤ cb) (hn : ¬ HasN 256 (κ * 256 + cur / 2 ^ (cb - 8) % 256)) (hl : ∀ t, ¬ LeafN 256 (κ * 256 + cur / 2 ^ (cb - 8) % 256) t)
    {more : List Nat} (hm : ∀ b ∈ bs ++ more, b ≤ 1) {st : List Nat × Nat × Nat} (hs : steps look (bs ++ more) ([], 0, 0) = some st) : 8 ≤ st.2.1 := by
  obtain ⟨d, hd, hsb, _⟩ := h.sz
  obtain ⟨done, P, hb, hP, hst, hcb, hcur, hu, hκ⟩ := h.child h8
  rw [hu] at hn hl
  have hnp := no_pref (k := cb - 8) hP (by omega) h.has (by rw [show sb - (cb - 8) - 8 = sb - cb by omega, show cb - 8 + 8 = cb by omega]; exact hκ) (by omega) hn hl
  have hsplit : bitsN P sb = bitsN (P / 2 ^ (cb - 8)) (sb - (cb - 8)) ++ bitsN P (cb - 8) := by
    have := bitsN_add P (sb - (cb - 8)) (cb - 8)
    rwa [show sb - (cb - 8) + (cb - 8) = sb by omega] at this
  have hall : bs ++ more = done ++ (bitsN (P / 2 ^ (cb - 8)) (sb - (cb - 8)) ++ (bitsN P (cb - 8) ++ more)) := by rw [hb, hsplit]; simp
  have hW := nohit (W := bitsN (P / 2 ^ (cb - 8)) (sb - (cb - 8)) ++ (bitsN P (cb - 8) ++ more)) (fun b h => hm b (by rw [hall]; exact List.mem_append_right _ h)) (fun s hs => hnp _ s hs) acc
  rw [hall, steps_append, hst] at hs
  simp only at hs
  rcases hW.1 with h | h
  · rw [h] at hs; cases hs
  · rw [h] at hs
    injection hs with hs
    rw [← hs]
    simp only [List.length_append, bitsN_length]
    omega
end Go.Proofs.YthnaobmepfkkpaaDoor
