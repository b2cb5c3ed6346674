/- Plain numbers: how the tree grows symbol by symbol. No program stands here. -/
import Derived.Test.YthnaobmepfkkpaaDoorDec3
namespace Go.Proofs.YthnaobmepfkkpaaDoor
open Go Go.RowKit

/-- The nodes while symbol s is brought in, down to depth d. -/
def HP (s d κ : Nat) : Prop := HasN s κ ∨ ∃ d', d' ≤ d ∧ κ = pre s d'
/-- Where a symbol's leaves begin, and how many they are. -/
def start8 (s : Nat) : Nat := hC s * 2 ^ (8 - rem8 s) % 256
def wide8 (s : Nat) : Nat := 2 ^ (8 - rem8 s)
/-- The leaves while those of symbol s are hung up, up to i. -/
def LfP (s i u t : Nat) : Prop := LeafN s u t ∨ (t = s ∧ ∃ j, start8 s ≤ j ∧ j < i ∧ u = pre s (lev s) * 256 + j)

theorem hasN_zero (κ : Nat) : κ = 1 ↔ HasN 0 κ := ⟨fun h => .inl h, fun h => by
  rcases h with h | ⟨t, d, ht, _⟩
  · exact h
  · omega⟩
theorem leafN_zero (u t : Nat) : False ↔ LeafN 0 u t := ⟨fun h => h.elim, fun h => by have := h.1; omega⟩
theorem pre_zero {s : Nat} (h : s < 257) : pre s 0 = 1 := by
  rw [pre_eq h (Nat.zero_le _), Nat.mul_zero, Nat.sub_zero, Nat.div_eq_of_lt (code.lt s h)]
theorem hp_zero {s : Nat} (h : s < 257) (κ : Nat) : HasN s κ ↔ HP s 0 κ := ⟨fun h => .inl h, fun h' => by
  rcases h' with h' | ⟨d', hd, rfl⟩
  · exact h'
  · obtain rfl : d' = 0 := by omega
    exact .inl (pre_zero h)⟩
theorem pre_succ {s d : Nat} (h : s < 257) (hd : d + 1 ≤ lev s) : pre s (d + 1) = pre s d * 256 + hC s / 2 ^ (hL s - 8 * (d + 1)) % 256 ∧ pre s (d + 1) / 256 = pre s d := by
  obtain ⟨l1, l2, l3, l4⟩ := lr h
  have e : pre s d = pre s (d + 1) / 256 := by
    unfold pre
    rw [Nat.div_div_eq_div_mul, show (256 : Nat) = 2 ^ 8 from rfl, ← Nat.pow_add]
    congr 2; omega
  refine ⟨?_, e.symm⟩
  have e2 := pre_eq h hd
  have e3 : pre s (d + 1) % 256 = hC s / 2 ^ (hL s - 8 * (d + 1)) % 256 := by
    rw [e2, show 8 * (d + 1) = 8 * d + 8 by omega, Nat.pow_add, show (2 : Nat) ^ 8 = 256 from rfl]
    omega
  rw [e, ← e3]; omega
theorem hp_succ (s d κ : Nat) : (HP s d κ ∨ κ = pre s (d + 1)) ↔ HP s (d + 1) κ := by
  constructor
  · rintro ((h | ⟨d', hd, h⟩) | h)
    · exact .inl h
    · exact .inr ⟨d', by omega, h⟩
    · exact .inr ⟨d + 1, by omega, h⟩
  · rintro (h | ⟨d', hd, h⟩)
    · exact .inl (.inl h)
    · by_cases e : d' = d + 1
      · subst e; exact .inr h
      · exact .inl (.inr ⟨d', by omega, h⟩)
theorem hp_lev {s : Nat} (κ : Nat) : HP s (lev s) κ ↔ HasN (s + 1) κ := by
  constructor
  · rintro ((h | ⟨t, d, ht, hd, h⟩) | ⟨d', hd, h⟩)
    · exact .inl h
    · exact .inr ⟨t, d, by omega, hd, h⟩
    · exact .inr ⟨s, d', by omega, hd, h⟩
  · rintro (h | ⟨t, d, ht, hd, h⟩)
    · exact .inl (.inl h)
    · by_cases e : t = s
      · subst e; exact .inr ⟨d, hd, h⟩
      · exact .inl (.inr ⟨t, d, by omega, hd, h⟩)
theorem HasN.mono {S S' κ : Nat} (h : HasN S κ) (hS : S ≤ S') : HasN S' κ := by
  rcases h with h | ⟨t, d, ht, h⟩
  · exact .inl h
  · exact .inr ⟨t, d, by omega, h⟩
theorem LeafN.mono {S S' u t : Nat} (h : LeafN S u t) (hS : S ≤ S') : LeafN S' u t := ⟨by have := h.1; omega, h.2⟩
theorem hasN_up {S u j : Nat} (hS : S ≤ 256) (hu : 0 < u) (hj : j < 256) (h : HasN S (u * 256 + j)) : HasN S u := by
  rcases h with h | ⟨t, d, ht, hd, h⟩
  · omega
  · cases d with
    | zero => rw [pre_zero (by omega)] at h; omega
    | succ d =>
      have := (pre_succ (by omega) hd).2
      refine .inr ⟨t, d, ht, by omega, ?_⟩
      rw [← this, ← h]; omega
theorem leafN_up {S u j t : Nat} (hS : S ≤ 256) (hj : j < 256) (h : LeafN S (u * 256 + j) t) : u = pre t (lev t) ∧ t < S := by
  obtain ⟨h1, h2⟩ := h
  obtain ⟨l1, l2, l3, l4⟩ := lr (t := t) (by omega)
  refine ⟨?_, h1⟩
  unfold pre
  rw [← h2, Nat.div_div_eq_div_mul, ← Nat.pow_add, show 8 - rem8 t + (hL t - 8 * lev t) = 8 by omega]
  omega
theorem pre_pos {s d : Nat} (h : s < 257) (hd : d ≤ lev s) : 0 < pre s d := by
  have := (pre_sz h hd).1
  have := Nat.two_pow_pos (8 * d)
  omega
/-- A node on the way to a symbol bears no leaf. -/
theorem way_leaf {s d t : Nat} (hs : s < 256) (hd : d ≤ lev s) : ¬ LeafN s (pre s d) t := fun h =>
  leaf_node (h.mono (by omega)) (.inr ⟨s, d, hs, hd, rfl⟩)
/-- A node that is new has no children. -/
theorem way_new {s d : Nat} (hs : s < 256) (hd : d + 1 ≤ lev s) (hn : ¬ HP s d (pre s (d + 1))) : (∀ j, j < 256 → ¬ HP s d (pre s (d + 1) * 256 + j)) ∧ (∀ j t, j < 256 → ¬ LeafN s (pre s (d + 1) * 256 + j) t) := by
  have hp := pre_pos (s := s) (by omega) hd
  refine ⟨fun j hj h => ?_, fun j t hj h => ?_⟩
  · rcases h with h | ⟨d', hd', h⟩
    · exact hn (.inl (hasN_up (by omega) hp hj h))
    · have h1 := pre_sz (t := s) (d := d + 1) (by omega) hd
      have h2 := pre_sz (t := s) (d := d') (by omega) (by omega)
      rw [← h] at h2
      have h3 : Sz (8 * (d + 1) + 8) (pre s (d + 1) * 256 + j) := by
        refine Sz.up (k := 8) ?_
        rwa [show (pre s (d + 1) * 256 + j) / 2 ^ 8 = pre s (d + 1) by omega]
      have := h2.uniq h3
      omega
  · obtain ⟨h1, h2⟩ := leafN_up (by omega) hj h
    exact hn (.inl (.inr ⟨t, lev t, h2, Nat.le_refl _, h1⟩))
theorem wide_le {s : Nat} (h : s < 257) : start8 s + wide8 s ≤ 256 ∧ start8 s = hC s % 2 ^ rem8 s * wide8 s ∧ 256 = 2 ^ rem8 s * wide8 s ∧ 0 < wide8 s := by
  obtain ⟨l1, l2, l3, l4⟩ := lr h
  have e : (256 : Nat) = 2 ^ rem8 s * 2 ^ (8 - rem8 s) := by rw [← Nat.pow_add, show rem8 s + (8 - rem8 s) = 8 by omega]
  have hp := Nat.two_pow_pos (8 - rem8 s)
  have e2 : start8 s = hC s % 2 ^ rem8 s * wide8 s := by
    unfold start8 wide8
    conv => lhs; rw [e]
    rw [Nat.mul_mod_mul_right]
  refine ⟨?_, e2, e, hp⟩
  rw [e2]
  unfold wide8
  have hlt : hC s % 2 ^ rem8 s < 2 ^ rem8 s := Nat.mod_lt _ (Nat.two_pow_pos _)
  calc hC s % 2 ^ rem8 s * 2 ^ (8 - rem8 s) + 2 ^ (8 - rem8 s) = (hC s % 2 ^ rem8 s + 1) * 2 ^ (8 - rem8 s) := by rw [Nat.add_mul, Nat.one_mul]
    _ ≤ 2 ^ rem8 s * 2 ^ (8 - rem8 s) := Nat.mul_le_mul_right _ hlt
    _ = 256 := e.symm
/-- The leaves of a symbol. -/
theorem leaf_iff {s u : Nat} (h : s < 257) : u / 2 ^ (8 - rem8 s) = cx s ↔ ∃ j, start8 s ≤ j ∧ j < start8 s + wide8 s ∧ u = pre s (lev s) * 256 + j := by
  obtain ⟨l1, l2, l3, l4⟩ := lr h
  obtain ⟨w1, w2, w3, w4⟩ := wide_le h
  have hcx : cx s = pre s (lev s) * 2 ^ rem8 s + hC s % 2 ^ rem8 s := by
    have e1 : cx s % 2 ^ rem8 s = hC s % 2 ^ rem8 s := by
      unfold cx
      rw [show hL s = rem8 s + 8 * lev s by omega, Nat.pow_add, Nat.mul_add_mod]
    have e2 : cx s / 2 ^ rem8 s = pre s (lev s) := by unfold pre; congr 2; omega
    rw [← e1, ← e2]
    exact (Nat.div_add_mod' _ _).symm
  have hW : wide8 s = 2 ^ (8 - rem8 s) := rfl
  rw [← hW, hcx]
  generalize hC s % 2 ^ rem8 s = lo at *
  generalize pre s (lev s) = κ at *
  generalize wide8 s = W at *
  generalize 2 ^ rem8 s = R at *
  rw [w2] at w1 ⊢
  have hmul : (κ * R + lo) * W = κ * 256 + lo * W := by rw [Nat.add_mul, Nat.mul_assoc, ← w3]
  constructor
  · intro hq
    have h1 := Nat.div_add_mod u W
    have h2 := Nat.mod_lt u w4
    rw [hq, Nat.mul_comm, hmul] at h1
    exact ⟨lo * W + u % W, by omega, by omega, by omega⟩
  · rintro ⟨j, j1, j2, rfl⟩
    refine Nat.div_eq_of_lt_le ?_ ?_
    · rw [hmul]; omega
    · rw [Nat.succ_mul, hmul]; omega
theorem lfp_start {s : Nat} (u t : Nat) : LeafN s u t ↔ LfP s (start8 s) u t := ⟨fun h => .inl h, fun h => by
  rcases h with h | ⟨_, j, h1, h2, _⟩
  · exact h
  · omega⟩
theorem lfp_end {s : Nat} (h : s < 257) (u t : Nat) : LfP s (start8 s + wide8 s) u t ↔ LeafN (s + 1) u t := by
  constructor
  · rintro (h' | ⟨rfl, h'⟩)
    · exact h'.mono (by omega)
    · exact ⟨by omega, (leaf_iff h).2 h'⟩
  · rintro ⟨h1, h2⟩
    by_cases e : t = s
    · subst e; exact .inr ⟨rfl, (leaf_iff h).1 h2⟩
    · exact .inl ⟨by omega, h2⟩
theorem lfp_succ {s i : Nat} (hi : start8 s ≤ i) (u t : Nat) : (LfP s i u t ∨ (u = pre s (lev s) * 256 + i ∧ t = s)) ↔ LfP s (i + 1) u t := by
  constructor
  · rintro ((h | ⟨rfl, j, h1, h2, h3⟩) | ⟨h1, rfl⟩)
    · exact .inl h
    · exact .inr ⟨rfl, j, h1, by omega, h3⟩
    · exact .inr ⟨rfl, i, hi, by omega, h1⟩
  · rintro (h | ⟨rfl, j, h1, h2, h3⟩)
    · exact .inl (.inl h)
    · by_cases e : j = i
      · subst e; exact .inr ⟨h3, rfl⟩
      · exact .inl (.inr ⟨rfl, j, h1, by omega, h3⟩)
theorem lfp_free {s i : Nat} (hs : s < 256) (h1 : start8 s ≤ i) (h2 : i < start8 s + wide8 s) : ¬ HasN (s + 1) (pre s (lev s) * 256 + i) ∧ ∀ t, ¬ LfP s i (pre s (lev s) * 256 + i) t := by
  have hl : LeafN 256 (pre s (lev s) * 256 + i) s := ⟨hs, (leaf_iff (by omega)).2 ⟨i, h1, h2, rfl⟩⟩
  refine ⟨fun h => leaf_node hl (h.mono (by omega)), fun t h => ?_⟩
  rcases h with h | ⟨_, j, _, j2, j3⟩
  · have := leaf_one hl (h.mono (by omega))
    have := h.1
    omega
  · omega
end Go.Proofs.YthnaobmepfkkpaaDoor
