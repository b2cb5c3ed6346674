/- The code of RFC 7541, appendix B, off the tables that the rows list: it is a prefix code. -/
import Derived.Test.YthnaobmepfkkpaaDoorHuf1
namespace Go.Proofs.YthnaobmepfkkpaaDoor
open Go Go.RowKit

/-- The numbers of an array as a row lists it. -/
def numsOf : DataW Unit → List Int
  | .agg l => l.map fun
    | .lit (.int _ n) => n
    | _ => 0
  | _ => []
def tabL : List Int := numsOf Rows.laid_semaphorist_pub_hpack_huffmanCodeLen
def tabC : List Int := numsOf Rows.laid_semaphorist_pub_hpack_huffmanCodes
/-- Lengths and codes of all symbols, the end's the last. -/
def pairs : List (Nat × Nat) := (tabL.zip tabC).map (fun p => (p.1.toNat, p.2.toNat)) ++ [(30, 1073741823)]
def hL (s : Nat) : Nat := (pairs.getD s (0, 0)).1
def hC (s : Nat) : Nat := (pairs.getD s (0, 0)).2
theorem pairs_len : pairs.length = 257 := by decide +kernel
theorem pairs_eos : pairs.getD 256 (0, 0) = (30, 1073741823) := by decide +kernel
def fits (p : Nat × Nat) : Bool := decide (1 ≤ p.1) && decide (p.1 ≤ 30) && decide (p.2 < 2 ^ p.1)
theorem pairs_fit : pairs.all fits = true := by decide +kernel
def free2 (a b : Nat × Nat) : Bool := if b.1 ≤ a.1 then a.2 / 2 ^ (a.1 - b.1) != b.2 else b.2 / 2 ^ (b.1 - a.1) != a.2
def allFree : List (Nat × Nat) → Bool
  | [] => true
  | a :: r => r.all (free2 a) && allFree r
theorem pairs_free : allFree pairs = true := by decide +kernel
theorem free_at : ∀ {l : List (Nat × Nat)}, allFree l = true → ∀ i j, i < j → j < l.length → free2 (l.getD i (0, 0)) (l.getD j (0, 0)) = true
  | [], _, _, j, _, h => by simp at h
  | a :: r, h, i, j, hij, hj => by
    simp only [allFree, Bool.and_eq_true, List.all_eq_true] at h
    obtain ⟨j, rfl⟩ : ∃ j', j = j' + 1 := ⟨j - 1, by omega⟩
    simp only [List.length_cons] at hj
    cases i with
    | zero =>
      simp only [List.getD_cons_zero, List.getD_cons_succ]
      refine h.1 _ ?_
      rw [List.getD_eq_getElem?_getD, List.getElem?_eq_getElem (by omega)]
      exact List.getElem_mem ..
    | succ i =>
      simp only [List.getD_cons_succ]
      exact free_at h.2 i j (by omega) (by omega)
theorem code : Code hL hC where
  pos s hs := by
    have := List.all_eq_true.1 pairs_fit (pairs.getD s (0, 0)) (by
      rw [List.getD_eq_getElem?_getD, List.getElem?_eq_getElem (by rw [pairs_len]; omega)]
      exact List.getElem_mem ..)
    simp only [fits, Bool.and_eq_true, decide_eq_true_eq] at this
    exact this.1
  lt s hs := by
    have := List.all_eq_true.1 pairs_fit (pairs.getD s (0, 0)) (by
      rw [List.getD_eq_getElem?_getD, List.getElem?_eq_getElem (by rw [pairs_len]; omega)]
      exact List.getElem_mem ..)
    simp only [fits, Bool.and_eq_true, decide_eq_true_eq] at this
    exact this.2
  free s t hs ht hle he := by
    rcases Nat.lt_trichotomy s t with h | h | h
    · exfalso
      have := free_at pairs_free s t h (by rw [pairs_len]; omega)
      unfold free2 at this
      unfold hL hC at *
      rw [if_pos hle] at this
      rw [he] at this
      simp at this
    · exact h
    · exfalso
      have := free_at pairs_free t s h (by rw [pairs_len]; omega)
      unfold free2 at this
      unfold hL hC at *
      split at this
      · rename_i hle2
        have e1 : (pairs.getD s (0, 0)).1 = (pairs.getD t (0, 0)).1 := by omega
        rw [e1] at this he
        simp only [Nat.sub_self, Nat.pow_zero, Nat.div_one] at this he
        rw [he] at this
        simp at this
      · rw [he] at this
        simp at this
  eosL := by unfold hL; rw [pairs_eos]
  eosC := by unfold hC; rw [pairs_eos]
end Go.Proofs.YthnaobmepfkkpaaDoor
