/- Plain numbers: how the decoder ends, against the reference. No program stands here. -/
import Derived.Test.YthnaobmepfkkpaaDoorDec1
namespace Go.Proofs.YthnaobmepfkkpaaDoor
open Go Go.RowKit

theorem leaf_one {u t s : Nat} (h : LeafN 256 u t) (k : LeafN 256 u s) : t = s := by
  have hz := h.sz (Nat.le_refl _)
  have kz := k.sz (Nat.le_refl _)
  have e := hz.uniq kz
  obtain ⟨h1, h2⟩ := h
  obtain ⟨k1, k2⟩ := k
  obtain ⟨l1, l2, l3, _⟩ := lr (t := t) (by omega)
  obtain ⟨m1, m2, m3, _⟩ := lr (t := s) (by omega)
  have key : ∀ {a b : Nat}, a < 256 → b < 256 → hL b ≤ hL a → hL a + (8 - rem8 a) = hL b + (8 - rem8 b) → u / 2 ^ (8 - rem8 a) = cx a → u / 2 ^ (8 - rem8 b) = cx b → a = b := by
    intro a b ha hb hle hlen e1 e2
    obtain ⟨n1, n2, n3, _⟩ := lr (t := a) (by omega)
    obtain ⟨o1, o2, o3, _⟩ := lr (t := b) (by omega)
    refine code.free a b (by omega) (by omega) hle ?_
    rw [show 8 - rem8 b = (8 - rem8 a) + (hL a - hL b) by omega, Nat.pow_add, ← Nat.div_div_eq_div_mul, e1] at e2
    unfold cx at e2
    rw [div_add_pow (by omega), show hL a - (hL a - hL b) = hL b by omega] at e2
    omega
  by_cases hle : hL s ≤ hL t
  · exact key h1 k1 hle (by omega) h2 k2
  · exact (key k1 h1 (by omega) (by omega) k2 h2).symm
theorem leaf_node {u t : Nat} (h : LeafN 256 u t) (k : HasN 256 u) : False := by
  have hz := h.sz (Nat.le_refl _)
  obtain ⟨h1, h2⟩ := h
  obtain ⟨l1, l2, l3, _⟩ := lr (t := t) (by omega)
  rcases k with rfl | ⟨s, d, hs, hd, rfl⟩
  · have : Sz 0 1 := ⟨by decide, by decide⟩
    have := this.uniq hz
    omega
  · have e := hz.uniq (pre_sz (by omega) hd)
    obtain ⟨m1, m2, m3, _⟩ := lr (t := s) (by omega)
    rw [pre_eq (by omega) hd, div_add_pow (by omega), Nat.div_div_eq_div_mul, ← Nat.pow_add, show 8 * d - (8 - rem8 t) = hL t by omega, show hL s - 8 * d + (8 - rem8 t) = hL s - hL t by omega] at h2
    have := code.free s t (by omega) (by omega) (by omega) (by unfold cx at h2; omega)
    subst this
    omega
/-- A symbol whose code stands at the head of what is pending ends behind the node. -/
theorem pend_sym {sb cb P κ s : Nat} (hP : P < 2 ^ sb) (hcb : cb ≤ sb) (hκ : HasN 256 κ) (hq : κ = 2 ^ (sb - cb) + P / 2 ^ cb) (hs : s < 256) (hp : bitsN (hC s) (hL s) <+: bitsN P sb) : sb - cb < hL s ∧ hL s ≤ sb ∧ P / 2 ^ (sb - hL s) = hC s := by
  have hle : hL s ≤ sb := by have := hp.length_le; rwa [bitsN_length, bitsN_length] at this
  have htk := List.prefix_iff_eq_take.1 hp
  rw [bitsN_length, bits_pref hle] at htk
  have hCs := code.lt s (by omega)
  have h1 : hC s = P / 2 ^ (sb - hL s) := by
    refine bitsN_inj hCs ?_ htk
    have := div_lt_pow (k := sb - hL s) hP (by omega)
    rwa [show sb - (sb - hL s) = hL s by omega] at this
  refine ⟨?_, hle, h1.symm⟩
  rcases Nat.lt_or_ge (sb - cb) (hL s) with h | h
  · exact h
  · exfalso
    obtain ⟨l1, l2, l3, l4⟩ := lr (t := s) (by omega)
    have hsz2 : Sz (sb - cb) κ := by rw [hq]; exact Sz.mk (div_lt_pow hP hcb)
    rcases hκ with rfl | ⟨t, d', ht, hd', e⟩
    · have : Sz 0 1 := ⟨by decide, by decide⟩
      have := this.uniq hsz2
      omega
    · obtain ⟨m1, m2, m3, m4⟩ := lr (t := t) (by omega)
      have es := (pre_sz (by omega) hd').uniq (by rw [← e]; exact hsz2)
      have e2 := pre_eq (t := t) (by omega) hd'
      rw [← e, hq, ← es] at e2
      have e3 : P / 2 ^ cb = hC t / 2 ^ (hL t - 8 * d') := by omega
      have hfree := code.free t s (by omega) (by omega) (by omega) (by
        rw [h1, show sb - hL s = cb + (8 * d' - hL s) by omega, Nat.pow_add, ← Nat.div_div_eq_div_mul, e3, Nat.div_div_eq_div_mul, ← Nat.pow_add]
        congr 2; omega)
      subst hfree
      omega
/-- The child's number behind the last byte. -/
theorem last_child {sb cb P κ cur : Nat} (hcb : cb ≤ sb) (h8 : cb < 8) (hq : κ = 2 ^ (sb - cb) + P / 2 ^ cb) (hcur : cur % 2 ^ cb = P % 2 ^ cb) : κ * 256 + cur * 2 ^ (8 - cb) % 256 = 2 ^ (sb + (8 - cb)) + P * 2 ^ (8 - cb) := by
  have e1 : cur * 2 ^ (8 - cb) % 256 = P % 2 ^ cb * 2 ^ (8 - cb) := by
    rw [← hcur, show (256 : Nat) = 2 ^ cb * 2 ^ (8 - cb) by rw [← Nat.pow_add, show cb + (8 - cb) = 8 by omega], Nat.mul_mod_mul_right]
  have e2 : (256 : Nat) = 2 ^ cb * 2 ^ (8 - cb) := by rw [← Nat.pow_add, show cb + (8 - cb) = 8 by omega]
  have e3 : P = 2 ^ cb * (P / 2 ^ cb) + P % 2 ^ cb := (Nat.div_add_mod P (2 ^ cb)).symm
  rw [e1, hq, e2, ← Nat.mul_assoc, ← Nat.add_mul, Nat.pow_add, ← Nat.add_mul]
  congr 1
  rw [Nat.add_mul, ← Nat.pow_add, show sb - cb + cb = sb by omega, Nat.mul_comm (P / 2 ^ cb)]
  omega
theorem shl_div {P a b : Nat} : P * 2 ^ a / 2 ^ (a + b) = P / 2 ^ b := by
  rw [Nat.pow_add, ← Nat.div_div_eq_div_mul, Nat.mul_div_cancel _ (Nat.two_pow_pos a)]
theorem Dst.leaf2 {bs acc : List Nat} {sb cb cur κ t : Nat} (h : Dst bs acc sb cb cur κ) (h8 : cb < 8) (hl : LeafN 256 (κ * 256 + cur * 2 ^ (8 - cb) % 256) t) (hr : rem8 t ≤ cb) : Dst bs (acc ++ [t]) (cb - rem8 t) (cb - rem8 t) cur 1 := by
  obtain ⟨⟨done, P, hb, hP, hst, hcb, hκ, hcur⟩, hh⟩ := h
  rw [last_child hcb h8 hκ hcur] at hl
  have hP2 : P * 2 ^ (8 - cb) < 2 ^ (sb + (8 - cb)) := by rw [Nat.pow_add]; exact Nat.mul_lt_mul_of_pos_right hP (Nat.two_pow_pos _)
  obtain ⟨e1, e2, e3⟩ := leaf_code (k := 0) (Nat.le_refl _) hP2 (by omega) (by simpa using hl)
  obtain ⟨l1, l2, l3, _⟩ := lr (t := t) (by have := hl.1; omega)
  rw [show sb + (8 - cb) - hL t = (8 - cb) + (sb - hL t) by omega, shl_div] at e3
  have e4 : sb - hL t = cb - rem8 t := by omega
  rw [← e4]
  exact Dst.sym hb hst hl.1 (by omega) e3 (mod_mod_pow hcur (by omega))
/-- A symbol at the head of what is pending is the leaf. -/
theorem pend_leaf {sb cb P κ cur s : Nat} (hP : P < 2 ^ sb) (hcb : cb ≤ sb) (hκ : HasN 256 κ) (hq : κ = 2 ^ (sb - cb) + P / 2 ^ cb) (hcur : cur % 2 ^ cb = P % 2 ^ cb) (h8 : cb < 8) (hs : s < 256) (hp : bitsN (hC s) (hL s) <+: bitsN P sb) :
    LeafN 256 (κ * 256 + cur * 2 ^ (8 - cb) % 256) s ∧ rem8 s ≤ cb := by
  obtain ⟨h1, h2, h3⟩ := pend_sym hP hcb hκ hq hs hp
  obtain ⟨l1, l2, l3, _⟩ := lr (t := s) (by omega)
  obtain ⟨d, hd, hsz⟩ := hκ.sz
  have hsz2 : Sz (sb - cb) κ := by rw [hq]; exact Sz.mk (div_lt_pow hP hcb)
  have ed := hsz.uniq hsz2
  refine ⟨⟨hs, ?_⟩, by omega⟩
  rw [last_child hcb h8 hq hcur, div_add_pow (by omega), show 8 - rem8 s = (8 - cb) + (sb - hL s) by omega, shl_div, h3]
  unfold cx
  congr 2; omega

/-- All bits are read; the decoder holds acc, and sb bits are pending. -/
structure Fin8 (bs acc : List Nat) (sb cb cur : Nat) : Prop where
  ex : ∃ P, P < 2 ^ sb ∧ (steps look bs ([], 0, 0) = none ∨ steps look bs ([], 0, 0) = some (acc, sb, P)) ∧ (sb < 30 → steps look bs ([], 0, 0) = some (acc, sb, P)) ∧ cur % 2 ^ cb = P % 2 ^ cb
  parts : cb ≤ sb ∧ (sb - cb) % 8 = 0
theorem Fin8.of {bs acc done : List Nat} {sb cb cur P : Nat} (hb : bs = done ++ bitsN P sb) (hP : P < 2 ^ sb) (hst : steps look done ([], 0, 0) = some (acc, 0, 0)) (hcb : cb ≤ sb) (h8 : (sb - cb) % 8 = 0) (hcur : cur % 2 ^ cb = P % 2 ^ cb)
    (hn : ∀ s, s < 256 → ¬ bitsN (hC s) (hL s) <+: bitsN P sb) : Fin8 bs acc sb cb cur := by
  have hbit : ∀ b ∈ bitsN P sb, b ≤ 1 := by
    intro b hb'
    obtain ⟨i, hi, rfl⟩ := List.getElem_of_mem hb'
    have := bitsN_get P sb i (by rwa [bitsN_length] at hi)
    rw [List.getElem?_eq_getElem hi] at this
    injection this with this
    rw [this]; omega
  have h := nohit hbit hn acc
  rw [bitsN_length, numB_bitsN, Nat.mod_eq_of_lt hP] at h
  refine ⟨⟨P, hP, ?_, ?_, hcur⟩, hcb, h8⟩
  · rw [hb, steps_append, hst]; exact h.1
  · intro hlt; rw [hb, steps_append, hst]; exact h.2 hlt
theorem Dst.sz8 {bs acc : List Nat} {sb cb cur κ : Nat} (h : Dst bs acc sb cb cur κ) : (sb - cb) % 8 = 0 := by
  obtain ⟨d, _, h, _⟩ := h.sz
  omega
theorem Dst.fin_zero {bs acc : List Nat} {sb cur κ : Nat} (h : Dst bs acc sb 0 cur κ) : Fin8 bs acc sb 0 cur := by
  have h8 := h.sz8
  obtain ⟨⟨done, P, hb, hP, hst, hcb, hκ, hcur⟩, hh⟩ := h
  refine Fin8.of hb hP hst hcb h8 hcur fun s hs hp => ?_
  have := pend_sym hP hcb hh hκ hs hp
  omega
theorem Dst.fin_node {bs acc : List Nat} {sb cb cur κ : Nat} (h : Dst bs acc sb cb cur κ) (hc8 : cb < 8) (hn : HasN 256 (κ * 256 + cur * 2 ^ (8 - cb) % 256)) : Fin8 bs acc sb cb cur := by
  have h8 := h.sz8
  obtain ⟨⟨done, P, hb, hP, hst, hcb, hκ, hcur⟩, hh⟩ := h
  exact Fin8.of hb hP hst hcb h8 hcur fun s hs hp => leaf_node (pend_leaf hP hcb hh hκ hcur hc8 hs hp).1 hn
theorem Dst.fin_leaf {bs acc : List Nat} {sb cb cur κ t : Nat} (h : Dst bs acc sb cb cur κ) (hc8 : cb < 8) (hl : LeafN 256 (κ * 256 + cur * 2 ^ (8 - cb) % 256) t) (hr : cb < rem8 t) : Fin8 bs acc sb cb cur := by
  have h8 := h.sz8
  obtain ⟨⟨done, P, hb, hP, hst, hcb, hκ, hcur⟩, hh⟩ := h
  refine Fin8.of hb hP hst hcb h8 hcur fun s hs hp => ?_
  obtain ⟨h1, h2⟩ := pend_leaf hP hcb hh hκ hcur hc8 hs hp
  have := leaf_one hl h1
  subst this
  omega
/-- Ones alone always lead on from the root. -/
theorem ones_lead : ((List.range 8).all fun c => c == 0 || (List.range 256).any fun t => decide ((256 + (2 ^ c - 1) * 2 ^ (8 - c)) / 2 ^ (8 - rem8 t) = cx t) || (decide (8 < hL t) && decide (256 + (2 ^ c - 1) * 2 ^ (8 - c) = cx t / 2 ^ (hL t - 8 * 1)))) = true := by decide +kernel
theorem Dst.dead2 {bs acc : List Nat} {sb cb cur κ : Nat} (h : Dst bs acc sb cb cur κ) (hc0 : 0 < cb) (hc8 : cb < 8) (hn : ¬ HasN 256 (κ * 256 + cur * 2 ^ (8 - cb) % 256)) (hl : ∀ t, ¬ LeafN 256 (κ * 256 + cur * 2 ^ (8 - cb) % 256) t)
    {st : List Nat × Nat × Nat} (hs : steps look bs ([], 0, 0) = some st) : ¬ (st.2.1 < 8 ∧ st.2.2 = 2 ^ st.2.1 - 1) := by
  have h8 := h.sz8
  obtain ⟨d, hd, hsd, hsz⟩ := h.sz
  obtain ⟨⟨done, P, hb, hP, hst, hcb, hκ, hcur⟩, hh⟩ := h
  have hfin := Fin8.of hb hP hst hcb h8 hcur fun s hs hp => hl s (pend_leaf hP hcb hh hκ hcur hc8 hs hp).1
  obtain ⟨P', hP', h1, h2, hcur'⟩ := hfin.ex
  rintro ⟨g1, g2⟩
  rcases h1 with h1 | h1
  · rw [h1] at hs; cases hs
  · rw [h1] at hs
    injection hs with hs
    rw [← hs] at g1 g2
    simp only at g1 g2
    have hsc : sb = cb := by omega
    have hu := last_child hcb hc8 hκ (hcur'.symm.trans hcur).symm.symm
    have hk1 : κ = 1 := by
      rw [hκ, hsc, Nat.sub_self, Nat.div_eq_of_lt (by rw [← hsc]; exact hP)]
    have hPm : cur * 2 ^ (8 - cb) % 256 = (2 ^ cb - 1) * 2 ^ (8 - cb) := by
      have e1 : cur * 2 ^ (8 - cb) % 256 = cur % 2 ^ cb * 2 ^ (8 - cb) := by
        rw [show (256 : Nat) = 2 ^ cb * 2 ^ (8 - cb) by rw [← Nat.pow_add, show cb + (8 - cb) = 8 by omega], Nat.mul_mod_mul_right]
      rw [e1, hcur', g2, hsc, Nat.mod_eq_of_lt (by have := Nat.two_pow_pos cb; omega)]
    rw [hPm, hk1] at hn hl
    have := List.all_eq_true.1 ones_lead cb (List.mem_range.2 hc8)
    simp only [Bool.or_eq_true, beq_iff_eq, List.any_eq_true, List.mem_range, Bool.and_eq_true, decide_eq_true_eq] at this
    rcases this with h | ⟨t, ht, h | ⟨h, h'⟩⟩
    · omega
    · exact hl t ⟨ht, by rw [← h]⟩
    · refine hn (.inr ⟨t, 1, ht, ?_, by rw [Nat.one_mul]; exact h'⟩)
      have := lr (t := t) (by omega)
      unfold lev
      omega

/-- What the reference says, out of how its reading of the bits ends. -/
theorem unh_no {ys : List Nat} (h : ∀ st, steps look (bitsB ys) ([], 0, 0) = some st → ¬ (st.2.1 < 8 ∧ st.2.2 = 2 ^ st.2.1 - 1)) : ∃ s, Unh ys s false := by
  cases hs : steps look (bitsB ys) ([], 0, 0) with
  | none => exact ⟨_, .inl ⟨hs, rfl, rfl⟩⟩
  | some st =>
    obtain ⟨acc, long, n⟩ := st
    have := h _ hs
    exact ⟨_, .inr ⟨acc, long, n, hs, rfl, by simp only at this; simp [this]⟩⟩
theorem Fin8.long {ys acc : List Nat} {sb cb cur : Nat} (h : Fin8 (bitsB ys) acc sb cb cur) (h7 : 7 < sb) : ∃ s, Unh ys s false := by
  obtain ⟨P, _, h1, _⟩ := h.ex
  refine unh_no fun st hs => ?_
  rcases h1 with h1 | h1
  · rw [h1] at hs; cases hs
  · rw [h1] at hs
    injection hs with hs
    rw [← hs]
    simp only
    omega
theorem Fin8.short {ys acc : List Nat} {sb cb cur : Nat} (h : Fin8 (bitsB ys) acc sb cb cur) (h7 : sb ≤ 7) : (cur % 2 ^ cb = 2 ^ cb - 1 → Unh ys (strOfNums (nz acc)) true) ∧ (¬ cur % 2 ^ cb = 2 ^ cb - 1 → ∃ s, Unh ys s false) := by
  obtain ⟨P, hP, _, h2, hcur⟩ := h.ex
  obtain ⟨p1, p2⟩ := h.parts
  obtain rfl : sb = cb := by omega
  have h2 := h2 (by omega)
  rw [hcur, Nat.mod_eq_of_lt hP]
  refine ⟨fun e => .inr ⟨acc, sb, P, h2, rfl, ?_⟩, fun e => ⟨_, .inr ⟨acc, sb, P, h2, rfl, ?_⟩⟩⟩
  · simp [e]; omega
  · simp [e]
end Go.Proofs.YthnaobmepfkkpaaDoor
