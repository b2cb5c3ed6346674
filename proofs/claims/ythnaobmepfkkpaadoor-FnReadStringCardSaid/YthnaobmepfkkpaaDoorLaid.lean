/- What the laws' rows give their walks: a slice that came in; what the listed variables hold. -/
import Derived.Test.YthnaobmepfkkpaaDoorBase
import Derived.LaidLaws
import Derived.LaidMore
import Derived.MakeChecks
import Derived.Stop.LaidErr
namespace Go.Proofs.YthnaobmepfkkpaaDoor
open Go Go.RowKit Go.ChangeShapes

/-- A slice of numbers that came in: it reads as xs; its length, its capacity, that the numbers fit their kind. -/
structure Came (k : IntKind) (w : World) (A : Option Addr) (n c : Nat) (xs : List Int) : Prop where
  len : xs.length = n
  cap : n ≤ c
  most : c ≤ 9223372036854775807
  rd : Rd k w A xs
  wf : ∀ x ∈ xs, (Lit.int k x).wf = true
theorem Came.nil (k : IntKind) (w : World) : Came k w none 0 0 [] := ⟨rfl, Nat.le_refl _, by omega, Rd.nil _ _ _, fun _ h => by cases h⟩
theorem Came.some {k : IntKind} {w : World} {a : Addr} {n c : Nat} {zs : List Int} (hl : n ≤ c) (hm : c ≤ maxLen) (hz : zs.length = c) (hcell : ∀ i, i < zs.length → w.cell? (a.add i) = some (.int k (zs.getD i 0))) (hwz : ∀ x ∈ zs, (Lit.int k x).wf = true) :
    Came k w (some a) n c (zs.take n) := by
  refine ⟨by simp; omega, hl, hm, fun h0 => ?_, fun x hx => hwz x (List.mem_of_mem_take hx)⟩
  have hn : 0 < zs.length := by
    rcases Nat.eq_zero_or_pos zs.length with h | h
    · exact absurd (by rw [List.eq_nil_of_length_eq_zero h]; simp) h0
    · exact h
  obtain ⟨b, off, spot⟩ := a
  have hs : spot = none := by simpa [Addr.add] using World.cell?_spot (hcell 0 hn)
  subst hs
  refine ⟨b, off, rfl, fun j hj => ?_⟩
  rw [List.length_take] at hj
  have := hcell j (by omega)
  have e1 : ((⟨b, off, none⟩ : Addr).add j) = ⟨b, off + j, none⟩ := by unfold Addr.add; split <;> simp_all
  rw [e1] at this
  rw [this]
  unfold nth; simp [show j < n by omega]
theorem Came.byt {w : World} {A : Option Addr} {n c : Nat} {xs : List Int} (h : Came .u8 w A n c xs) : Byt xs := fun x hx => by
  have := bounds_u8 (h.wf x hx)
  omega

theorem star : "*errors.errorString" = "*" ++ "errors.errorString" := by decide +kernel
theorem rowEs (u : TypeId) (h : Tryd.prog.typeName? 3 u = some "*errors.errorString") : u = 113 :=
  typeName_ptr_named (nm := "errors.errorString") (by rw [← star]; kernel_rfl) (by kernel_rfl) (by decide) u (by rw [← star]; exact h)
theorem nameEOF : Tryd.prog.globalNamed "io.EOF" = some 0 := by kernel_rfl
theorem typeEOF : (Tryd.prog.globals[0]?).map (·.type) = some 54 := by kernel_rfl
theorem cellsEs : Tryd.prog.cellsOf 131 = 1 := by kernel_rfl
theorem cellsStr : Tryd.prog.cellsOf 9 = 1 := by kernel_rfl
theorem underErr : ∃ ms, Tryd.prog.underlying 54 = some (.interface ms) := ⟨_, Tryd.underlying54⟩
/-- io.EOF, listed at the head. -/
theorem eof_of_head {W : World} {r : List (String × DataW Unit)} (h : laidMet Tryd.prog (("io.EOF", Rows.laid_io_EOF) :: r) W) : ∃ a0, Eof W a0 := by
  obtain ⟨a, s, hv, _⟩ := laid_sentinel h nameEOF typeEOF Tryd.underlying54 rowEs Tryd.underlying113 Tryd.underlying131 rfl rfl Tryd.underlying9 cellsEs cellsStr
  exact ⟨a, by simpa [Eof] using World.var?_cell nameEOF hv 0⟩
theorem eof_of {W : World} (h : laidMetH Tryd.prog [("io.EOF", Rows.laid_io_EOF)] W) : ∃ a0, Eof W a0 := by
  rw [MakeChecks.laidMetH_plain _ _ _ (by kernel_rfl)] at h
  exact eof_of_head h
theorem eof_of3 {W : World} (h : laidMetH Tryd.prog [("io.ErrShortBuffer", Rows.laid_io_ErrShortBuffer), ("io.EOF", Rows.laid_io_EOF), ("io.ErrUnexpectedEOF", Rows.laid_io_ErrUnexpectedEOF)] W) : ∃ a0, Eof W a0 := by
  rw [MakeChecks.laidMetH_plain _ _ _ (by kernel_rfl)] at h
  exact eof_of_head h.tail
end Go.Proofs.YthnaobmepfkkpaaDoor
