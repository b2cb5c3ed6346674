/- Plain numbers and lists: integers with a prefix (RFC 7541, 5.1): what a reader gathers from the further bytes. No program stands here. -/
import Derived.Test.YthnaobmepfkkpaaDoorNum
namespace Go.Proofs.YthnaobmepfkkpaaDoor
open Go Go.RowKit

/-- The sum of the first j further bytes, seven bits each. -/
def pat (r : List Int) : Nat → Int
  | 0 => 0
  | j + 1 => pat r j + nth r j % 128 * 128 ^ j
theorem pat_zero (r : List Int) : pat r 0 = 0 := rfl
theorem pat_succ (r : List Int) (j : Nat) : pat r (j + 1) = pat r j + nth r j % 128 * 128 ^ j := rfl
theorem pat_bound (r : List Int) (j : Nat) : 0 ≤ pat r j ∧ pat r j < 128 ^ j := by
  induction j with
  | zero => rw [pat_zero]; omega
  | succ j ih =>
    rw [pat_succ, Int.pow_succ]
    have h0 : 0 ≤ nth r j % 128 := by omega
    have h1 : nth r j % 128 ≤ 127 := by omega
    have hp : 0 ≤ (128 : Int) ^ j := by omega
    generalize (128 : Int) ^ j = p at *
    generalize nth r j % 128 = a at *
    have h2 : 0 ≤ a * p := Int.mul_nonneg h0 hp
    have h3 : a * p ≤ 127 * p := Int.mul_le_mul_of_nonneg_right h1 hp
    omega
theorem pow_le8 {j : Nat} (h : j ≤ 8) : (128 : Int) ^ j ≤ 72057594037927936 := by
  rcases (show j = 0 ∨ j = 1 ∨ j = 2 ∨ j = 3 ∨ j = 4 ∨ j = 5 ∨ j = 6 ∨ j = 7 ∨ j = 8 by omega) with rfl | rfl | rfl | rfl | rfl | rfl | rfl | rfl | rfl <;> decide
theorem pow_pos128 (j : Nat) : 0 < (128 : Int) ^ j := Int.pow_pos (by decide)
/-- What one further byte adds: below 2^63. -/
theorem add_bound (b : Int) {j : Nat} (h : j ≤ 8) : 0 ≤ b % 128 * 128 ^ j ∧ b % 128 * 128 ^ j ≤ 9151314442816847872 := by
  have h0 : 0 ≤ b % 128 := by omega
  have h1 : b % 128 ≤ 127 := by omega
  have hp := pow_pos128 j
  have h8 := pow_le8 h
  generalize (128 : Int) ^ j = p at *
  generalize b % 128 = a at *
  have h2 : 0 ≤ a * p := Int.mul_nonneg h0 (by omega)
  have h3 : a * p ≤ 127 * p := Int.mul_le_mul_of_nonneg_right h1 (by omega)
  omega
theorem pat_le8 (r : List Int) {j : Nat} (h : j ≤ 8) : 0 ≤ pat r j ∧ pat r j ≤ 72057594037927935 := by
  have h1 := pat_bound r j
  have h2 := pow_le8 h
  omega
theorem pat_mono (r : List Int) (j : Nat) : pat r j ≤ pat r (j + 1) := by
  rw [pat_succ]
  have h0 : 0 ≤ nth r j % 128 := by omega
  have := Int.mul_nonneg h0 (Int.le_of_lt (pow_pos128 j))
  omega
theorem pow_shift (j : Nat) : (2 : Int) ^ (7 * j) = 128 ^ j := by rw [Int.pow_mul]; rfl

/-- The first t further bytes say that more follow. -/
def Cont (r : List Int) (t : Nat) : Prop := ∀ i, i < t → 128 ≤ nth r i
theorem Cont.zero (r : List Int) : Cont r 0 := fun _ h => absurd h (by omega)
theorem Cont.succ {r : List Int} {t : Nat} (h : Cont r t) (h1 : 128 ≤ nth r t) : Cont r (t + 1) := fun i hi => by
  rcases Nat.lt_or_ge i t with h2 | h2
  · exact h i h2
  · obtain rfl : i = t := by omega
    exact h1
/-- How an integer with further bytes may go: it ends within nine of them, it breaks off, or it goes on behind nine. -/
theorem how (r : List Int) : (∃ t, t ≤ 8 ∧ t < r.length ∧ Cont r t ∧ nth r t < 128) ∨ (r.length ≤ 9 ∧ Cont r r.length) ∨ (9 < r.length ∧ Cont r 9) := by
  have go : ∀ n, n ≤ 9 → n ≤ r.length → (∃ t, t < n ∧ Cont r t ∧ nth r t < 128) ∨ Cont r n := by
    intro n
    induction n with
    | zero => exact fun _ _ => .inr (Cont.zero r)
    | succ n ih =>
      intro h1 h2
      rcases ih (by omega) (by omega) with ⟨t, h3, h4⟩ | h3
      · exact .inl ⟨t, by omega, h4⟩
      · by_cases h4 : nth r n < 128
        · exact .inl ⟨n, by omega, h3, h4⟩
        · exact .inr (h3.succ (by omega))
  by_cases h9 : r.length ≤ 9
  · rcases go r.length h9 (Nat.le_refl _) with ⟨t, h1, h2, h3⟩ | h
    · exact .inl ⟨t, by omega, h1, h2, h3⟩
    · exact .inr (.inl ⟨h9, h⟩)
  · rcases go 9 (Nat.le_refl _) (by omega) with ⟨t, h1, h2, h3⟩ | h
    · exact .inl ⟨t, by omega, by omega, h2, h3⟩
    · exact .inr (.inr ⟨by omega, h⟩)

/-- The greatest number of so many bits. -/
def most (k : Nat) : Int := 2 ^ k - 1
theorem most_cases {k : Nat} (h1 : 1 ≤ k) (h8 : k ≤ 8) : 1 ≤ most k ∧ most k ≤ 255 := by
  unfold most
  rcases (show k = 1 ∨ k = 2 ∨ k = 3 ∨ k = 4 ∨ k = 5 ∨ k = 6 ∨ k = 7 ∨ k = 8 by omega) with rfl | rfl | rfl | rfl | rfl | rfl | rfl | rfl <;> decide
/-- The prefix of a byte. -/
def low (x : Int) (k : Nat) : Int := x % 2 ^ k
theorem low_bound (x : Int) {k : Nat} (h1 : 1 ≤ k) (h8 : k ≤ 8) : 0 ≤ low x k ∧ low x k ≤ most k := by
  unfold low most
  rcases (show k = 1 ∨ k = 2 ∨ k = 3 ∨ k = 4 ∨ k = 5 ∨ k = 6 ∨ k = 7 ∨ k = 8 by omega) with rfl | rfl | rfl | rfl | rfl | rfl | rfl | rfl <;> (simp only [Int.reducePow]; omega)
theorem and_most_u64 {x : Int} {k : Nat} (h0 : 0 ≤ x) (h1 : x ≤ 255) (h8 : k ≤ 8) : bits .and .u64 x (most k) = low x k :=
  bits_mask .u64 8 (by decide) (fun n a c => IntWalk.u64_in n (by omega)) k h8 x h0 (by omega)
theorem and_most_u8 {x : Int} {k : Nat} (h0 : 0 ≤ x) (h1 : x ≤ 255) (h8 : k ≤ 8) : bits .and .u8 x (most k) = low x k :=
  bits_mask .u8 8 (by decide) wraps_u8 k h8 x h0 (by omega)
theorem most_u64 {k : Nat} (h8 : k ≤ 8) : IntKind.u64.wrap (IntKind.u64.wrap (2 ^ k) - 1) = most k := by
  unfold most
  rcases (show k = 0 ∨ k = 1 ∨ k = 2 ∨ k = 3 ∨ k = 4 ∨ k = 5 ∨ k = 6 ∨ k = 7 ∨ k = 8 by omega) with rfl | rfl | rfl | rfl | rfl | rfl | rfl | rfl | rfl <;> rfl
theorem most_u8a {k : Nat} (h8 : k ≤ 8) : ((2 : Int) ^ k - 1) % 256 = most k := by
  unfold most
  rcases (show k = 0 ∨ k = 1 ∨ k = 2 ∨ k = 3 ∨ k = 4 ∨ k = 5 ∨ k = 6 ∨ k = 7 ∨ k = 8 by omega) with rfl | rfl | rfl | rfl | rfl | rfl | rfl | rfl | rfl <;> rfl
theorem most_u8b {k : Nat} (h8 : k ≤ 8) : ((2 : Int) ^ k % 256 - 1) % 256 = most k := by
  unfold most
  rcases (show k = 0 ∨ k = 1 ∨ k = 2 ∨ k = 3 ∨ k = 4 ∨ k = 5 ∨ k = 6 ∨ k = 7 ∨ k = 8 by omega) with rfl | rfl | rfl | rfl | rfl | rfl | rfl | rfl | rfl <;> rfl
theorem and127 {b : Int} (h0 : 0 ≤ b) (h1 : b ≤ 255) : bits .and .u8 b 127 = b % 128 := bits_mask .u8 8 (by decide) wraps_u8 7 (by decide) b h0 (by omega)
theorem and128 {b : Int} (h0 : 0 ≤ b) (h1 : b ≤ 255) : bits .and .u8 b 128 = if b < 128 then 0 else 128 := by
  have h : ∀ n : Fin 256, bits .and .u8 ((n.val : Nat) : Int) 128 = if ((n.val : Nat) : Int) < 128 then 0 else 128 := by decide +kernel
  have := h ⟨b.toNat, by omega⟩
  have e : ((b.toNat : Nat) : Int) = b := Int.toNat_of_nonneg h0
  simpa [e] using this
theorem more_no {b : Int} (h0 : 0 ≤ b) (h : b < 128) : (bits .and .u8 b 128 == 0) = true := by rw [and128 h0 (by omega), if_pos h]; rfl
theorem more_yes {b : Int} (h1 : b ≤ 255) (h : 128 ≤ b) : (bits .and .u8 b 128 == 0) = false := by rw [and128 (by omega) h1, if_neg (by omega)]; rfl
theorem pat_le (r : List Int) {i j : Nat} (h : i ≤ j) : pat r i ≤ pat r j := by
  induction j with
  | zero => obtain rfl : i = 0 := by omega
            exact Int.le_refl _
  | succ j ih =>
    rcases Nat.lt_or_ge i (j + 1) with h1 | h1
    · exact Int.le_trans (ih (by omega)) (pat_mono r j)
    · obtain rfl : i = j + 1 := by omega
      exact Int.le_refl _
end Go.Proofs.YthnaobmepfkkpaaDoor
