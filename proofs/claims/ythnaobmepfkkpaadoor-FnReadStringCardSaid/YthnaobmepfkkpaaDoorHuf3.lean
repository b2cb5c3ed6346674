/- Walks of the reference's lengths and codes. -/
import Derived.Test.YthnaobmepfkkpaaDoorHuf2
import Derived.Test.YthnaobmepfkkpaaDoorMem
import Derived.Great.BuildSlice
namespace Go.Proofs.YthnaobmepfkkpaaDoor
open Go Go.RowKit

/-- The lengths, as the reference lays them. -/
def lensI : List Int := pairs.map fun p => (p.1 : Int)
def codesI : List Int := pairs.map fun p => (p.2 : Int)
theorem lensI_len : lensI.length = 257 := by unfold lensI; rw [List.length_map, pairs_len]
theorem codesI_len : codesI.length = 257 := by unfold codesI; rw [List.length_map, pairs_len]

set_option maxRecDepth 100000 in
theorem lengths_any (w : World) : Calls Tryd.prog 15 #[] w fun e w' => e = .returned (.slice (some ⟨w.heap.size, 0, none⟩) 257 257) ∧ Own .i64 3 w' w.heap.size (some ⟨w.heap.size, 0, none⟩) 257 257 lensI ∧ Below w.heap.size w w' := by
  go_enter Tryd.func15, Tryd.ntmps15
  go_wp2_with (refine wpList_buildFlat rfl 39 3 257 _ rfl .i64 lensI Tryd.underlying39 (by kernel_rfl) (by kernel_rfl) lensI_len.symm (by decide) (by decide) (by kernel_rfl) ?_)
  go_ret
  have hl : (lensI.map (Value.int .i64)).toArray.size = 257 := by simp [lensI_len]
  refine ⟨rfl, ⟨by simp [lensI_len], .inr ⟨w.heap.size, 257, (lensI.map (Value.int .i64)).toArray, rfl, Nat.le_refl _, heap_alloc_new w _, Nat.le_refl _, by unfold maxLen; omega, hl, by simp; exact List.take_of_length_le (by simp [lensI_len])⟩⟩, (Below.refl _ _).alloc (Nat.le_refl _) _⟩
end Go.Proofs.YthnaobmepfkkpaaDoor
