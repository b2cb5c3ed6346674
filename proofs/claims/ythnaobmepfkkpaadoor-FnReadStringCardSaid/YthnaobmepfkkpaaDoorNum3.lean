/- Plain numbers and lists: how an integer with a prefix is written (RFC 7541, 5.1), and that it is read back. No program stands here. -/
import Derived.Test.YthnaobmepfkkpaaDoorNum2
namespace Go.Proofs.YthnaobmepfkkpaaDoor
open Go Go.RowKit

/-- A number in further bytes, seven bits each. -/
def pdig : Nat → Int → List Int
  | 0, n => [n]
  | f + 1, n => if n < 128 then [n] else (n % 128 + 128) :: pdig f (n / 128)
/-- An integer with a prefix of k bits, the bits first ahead of it. -/
def pint (first : Int) (k : Nat) (n : Int) : List Int := if n < most k then [first + n] else (first + most k) :: pdig 8 (n - most k)
theorem pdig_last {f : Nat} {n : Int} (h : n < 128) : pdig f n = [n] := by
  cases f with
  | zero => rfl
  | succ f => rw [pdig, if_pos h]
theorem pdig_more {f : Nat} {n : Int} (h : ¬ n < 128) : pdig (f + 1) n = (n % 128 + 128) :: pdig f (n / 128) := by rw [pdig, if_neg h]
theorem pdig_length (f : Nat) (n : Int) : 1 ≤ (pdig f n).length ∧ (pdig f n).length ≤ f + 1 := by
  induction f generalizing n with
  | zero => exact ⟨Nat.le_refl _, Nat.le_refl _⟩
  | succ f ih =>
    by_cases h : n < 128
    · rw [pdig_last h]; exact ⟨Nat.le_refl _, by simp⟩
    · rw [pdig_more h]; have := ih (n / 128); simp only [List.length_cons]; omega
theorem pint_length (first : Int) (k : Nat) (n : Int) : 1 ≤ (pint first k n).length ∧ (pint first k n).length ≤ 10 := by
  unfold pint
  split
  · simp
  · have := pdig_length 8 (n - most k); simp only [List.length_cons]; omega
theorem pdig_byt (f : Nat) (n : Int) (h0 : 0 ≤ n) (h1 : n < 128 ^ (f + 1)) : Byt (pdig f n) := by
  induction f generalizing n with
  | zero => exact Byt.cons h0 (by omega) Byt.nil
  | succ f ih =>
    by_cases h : n < 128
    · rw [pdig_last h]; exact Byt.cons h0 (by omega) Byt.nil
    · rw [pdig_more h]
      refine Byt.cons (by omega) (by omega) (ih (n / 128) (by omega) ?_)
      rw [Int.pow_succ] at h1
      generalize (128 : Int) ^ (f + 1) = p at *
      omega
/-- What is written reads as it was: as a sum. -/
theorem pdig_read (f : Nat) (n : Int) (rest : List Int) (h0 : 0 ≤ n) (h1 : n < 128 ^ (f + 1)) :
    ∃ t, t + 1 = (pdig f n).length ∧ t ≤ f ∧ Cont (pdig f n ++ rest) t ∧ nth (pdig f n ++ rest) t < 128 ∧ pat (pdig f n ++ rest) (t + 1) = n := by
  induction f generalizing n with
  | zero =>
    refine ⟨0, rfl, Nat.le_refl _, Cont.zero _, ?_, ?_⟩
    · show n < 128; omega
    · show 0 + n % 128 * 128 ^ 0 = n
      omega
  | succ f ih =>
    by_cases h : n < 128
    · rw [pdig_last h]
      refine ⟨0, rfl, Nat.zero_le _, Cont.zero _, h, ?_⟩
      show 0 + n % 128 * 128 ^ 0 = n
      omega
    · rw [pdig_more h]
      obtain ⟨t, e1, e2, e3, e4, e5⟩ := ih (n / 128) (by omega) (by
        rw [Int.pow_succ] at h1
        generalize (128 : Int) ^ (f + 1) = p at *
        omega)
      refine ⟨t + 1, by simp [← e1], by omega, ?_, e4, ?_⟩
      · intro i hi
        cases i with
        | zero => show 128 ≤ n % 128 + 128; omega
        | succ i => exact e3 i (by omega)
      · have hstep : ∀ (c : Int) (l : List Int) (j : Nat), pat (c :: l) (j + 1) = c % 128 + 128 * pat l j := by
          intro c l j
          induction j with
          | zero => show 0 + c % 128 * 128 ^ 0 = c % 128 + 128 * 0; omega
          | succ j ihj =>
            rw [pat_succ (c :: l) (j + 1), ihj, nth_succ, pat_succ l j, Int.pow_succ, Int.mul_add, Int.add_assoc]
            congr 2
            rw [← Int.mul_assoc, Int.mul_comm _ (128 : Int)]
        show pat ((n % 128 + 128) :: (pdig f (n / 128) ++ rest)) (t + 1 + 1) = n
        rw [hstep, e5]
        omega
end Go.Proofs.YthnaobmepfkkpaaDoor
