/- Plain numbers and lists: variable-length integers (RFC 9000, 16): what a reader gathers. No program stands here. -/
import Derived.Test.YthnaobmepfkkpaaDoorBase
namespace Go.Proofs.YthnaobmepfkkpaaDoor
open Go Go.RowKit

/-- The number gathered from further bytes. -/
def vacc (v : Int) : List Int → Int
  | [] => v
  | b :: r => vacc (v * 256 + b) r
theorem vacc_snoc (v : Int) (r : List Int) (b : Int) : vacc v (r ++ [b]) = vacc v r * 256 + b := by
  induction r generalizing v with
  | nil => rfl
  | cons c r ih => exact ih _
/-- .. from the first j of them. -/
def vat (x : Int) (r : List Int) (j : Nat) : Int := vacc (x % 64) (r.take j)
theorem vat_zero (x : Int) (r : List Int) : vat x r 0 = x % 64 := rfl
theorem take_next {r : List Int} {j : Nat} (h : j < r.length) : r.take (j + 1) = r.take j ++ [nth r j] := by
  rw [List.take_succ_eq_append_getElem h, nth_get h]
theorem vat_succ (x : Int) {r : List Int} {j : Nat} (h : j < r.length) : vat x r (j + 1) = vat x r j * 256 + nth r j := by
  unfold vat; rw [take_next h, vacc_snoc]
theorem vat_bound (x : Int) {r : List Int} (hr : Byt r) : ∀ j, j ≤ r.length → 0 ≤ vat x r j ∧ vat x r j < 64 * 256 ^ j := by
  intro j
  induction j with
  | zero => intro _; rw [vat_zero]; omega
  | succ j ih =>
    intro h
    have h1 := ih (by omega)
    have h2 := hr.nth j
    rw [vat_succ x (by omega), Int.pow_succ]
    generalize (256 : Int) ^ j = p at *
    omega
theorem vat_small (x : Int) {r : List Int} (hr : Byt r) {j : Nat} (hj : j ≤ r.length) (h6 : j ≤ 6) : 0 ≤ vat x r j ∧ vat x r j ≤ 18014398509481983 := by
  have h := vat_bound x hr j hj
  have : (256 : Int) ^ j ≤ 256 ^ 6 := by
    rcases (show j = 0 ∨ j = 1 ∨ j = 2 ∨ j = 3 ∨ j = 4 ∨ j = 5 ∨ j = 6 by omega) with rfl | rfl | rfl | rfl | rfl | rfl | rfl <;> decide
  have e : (256 : Int) ^ 6 = 281474976710656 := by decide
  omega
theorem vat_fits (x : Int) {r : List Int} (hr : Byt r) {j : Nat} (hj : j ≤ r.length) (h7 : j ≤ 7) : 0 ≤ vat x r j ∧ vat x r j ≤ 4611686018427387903 := by
  have h := vat_bound x hr j hj
  have : (256 : Int) ^ j ≤ 256 ^ 7 := by
    rcases (show j = 0 ∨ j = 1 ∨ j = 2 ∨ j = 3 ∨ j = 4 ∨ j = 5 ∨ j = 6 ∨ j = 7 by omega) with rfl | rfl | rfl | rfl | rfl | rfl | rfl | rfl <;> decide
  have e : (256 : Int) ^ 7 = 72057594037927936 := by decide
  omega
/-- How many bytes the integer has that begins with x. -/
def vlen (x : Int) : Nat := if x < 64 then 1 else if x < 128 then 2 else if x < 192 then 4 else 8
theorem vlen_cases (x : Int) : vlen x = 1 ∨ vlen x = 2 ∨ vlen x = 4 ∨ vlen x = 8 := by unfold vlen; split <;> (try split) <;> (try split) <;> simp
theorem vlen_pos (x : Int) : 1 ≤ vlen x ∧ vlen x ≤ 8 := by have := vlen_cases x; omega
theorem vlen_pow (x : Int) (h0 : 0 ≤ x) (h1 : x ≤ 255) : wrap64 (2 ^ (x / 64).toNat) = (vlen x : Int) := by
  rcases (show (x / 64).toNat = 0 ∧ x < 64 ∨ (x / 64).toNat = 1 ∧ 64 ≤ x ∧ x < 128 ∨ (x / 64).toNat = 2 ∧ 128 ≤ x ∧ x < 192 ∨ (x / 64).toNat = 3 ∧ 192 ≤ x by omega) with ⟨e, h⟩ | ⟨e, h, h'⟩ | ⟨e, h, h'⟩ | ⟨e, h⟩ <;> rw [e] <;> unfold vlen
  · rw [if_pos h]; unfold wrap64; decide
  · rw [if_neg (by omega), if_pos h']; unfold wrap64; decide
  · rw [if_neg (by omega), if_neg (by omega), if_pos h']; unfold wrap64; decide
  · rw [if_neg (by omega), if_neg (by omega), if_neg (by omega)]; unfold wrap64; decide
theorem nth_drop (r : List Int) (i j : Nat) : nth (r.drop i) j = nth r (i + j) := by unfold nth; simp
theorem drop_cons {r : List Int} {j : Nat} (h : j < r.length) : r.drop j = nth r j :: r.drop (j + 1) := by rw [List.drop_eq_getElem_cons h, nth_get h]

/-- A number shifted by eight bits, with a byte laid in. -/
theorem or_byte (v b : Int) (h0 : 0 ≤ v) (h1 : v ≤ 18014398509481983) (g0 : 0 ≤ b) (g1 : b ≤ 255) : bits .or .i64 (v * 256) b = v * 256 + b :=
  bits_join .i64 62 (by decide) (fun n a c => IntWalk.i64_in n (by omega)) 8 (v * 256) b (by omega) (by omega) (by omega) (by omega) (by omega) (by omega)
theorem or_byte_u (v b : Int) (h0 : 0 ≤ v) (h1 : v ≤ 18014398509481983) (g0 : 0 ≤ b) (g1 : b ≤ 255) : bits .or .u64 (v * 256) b = v * 256 + b :=
  bits_join .u64 62 (by decide) (fun n a c => IntWalk.u64_in n (by omega)) 8 (v * 256) b (by omega) (by omega) (by omega) (by omega) (by omega) (by omega)
end Go.Proofs.YthnaobmepfkkpaaDoor
