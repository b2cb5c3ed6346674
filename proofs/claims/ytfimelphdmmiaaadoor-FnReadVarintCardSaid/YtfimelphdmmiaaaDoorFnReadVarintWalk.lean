/- The law FnReadVarint: the walk. -/
import Derived.Test.YtfimelphdmmiaaaDoorRead2
import Derived.Test.YtfimelphdmmiaaaDoorLaid
namespace Go.Proofs.YtfimelphdmmiaaaDoor.fnReadVarint
open Go Go.RowKit

theorem walk {w : World} {A : Option Addr} {n c : Nat} {xs : List Int} (h : Came .u8 w A n c xs) (hL : laidMetH Tryd.prog [("io.EOF", Rows.laid_io_EOF)] w) :
    Calls Tryd.prog 4 #[.slice A n c] w fun e w' => e = .returned (.bool true) ∧ Below w.heap.size w w' := by
  obtain ⟨a0, hE⟩ := eof_of hL
  have hcap := h.cap
  have hmost := h.most
  by_cases hbig : 2147483647 < n
  · clear hL hE
    go_enter Tryd.func4, Tryd.ntmps4
    go_wp2
    go_ret
    exact ⟨rfl, Below.refl _ _⟩
  · have hbig : n ≤ 2147483647 := by omega
    have hlen := h.len
    have hy := h.byt
    have hr := h.rd
    clear h hL
    rcases xs with _ | ⟨x, r⟩
    · obtain rfl : n = 0 := hlen.symm
      have h1 := Lib.hid (pv_nil w A 0 c rfl)
      have h2 := Lib.hid (irv (hrv_nil (A := A) (c := c) hE))
      clear hlen hy hr hE
      go_enter Tryd.func4, Tryd.ntmps4
      go_wp2_with fail
      refine h1.out.mono ?_
      rintro e w' ⟨rfl, rfl⟩
      go_wp2_with fail
      refine h2.out.mono ?_
      rintro e w1 ⟨rfl, hb⟩
      go_wp2
      go_ret
      exact ⟨rfl, hb⟩
    · by_cases hv : vlen x ≤ n
      · have h1 := Lib.hid (pv_ok hr hlen hy (by omega) hv hcap)
        have h2 := Lib.hid (irv (hrv_ok (c := c) hr hlen hy (by omega) (by simp at hlen; omega)))
        have hl1 : (r.drop (vlen x - 1)).length = n - vlen x := by simp at hlen; simp; have := vlen_pos x; omega
        obtain ⟨hv1, hv8⟩ := vlen_pos x
        have hvn : ((vlen x : Int) == 0) = false := by simp; omega
        obtain ⟨hb0, hb1⟩ := vat_fits x hy.tail (j := vlen x - 1) (by simp at hlen; omega) (by omega)
        rw [hl1] at h2
        have heq : (((n - vlen x : Nat) : Int) == (n : Int) - (vlen x : Int)) = true := by rw [beq_iff_eq]; omega
        clear hlen hy hr hE hl1
        go_enter Tryd.func4, Tryd.ntmps4
        go_wp2_with fail
        refine h1.out.mono ?_
        rintro e w' ⟨rfl, rfl⟩
        go_wp2_with fail
        refine h2.out.mono ?_
        rintro e w1 ⟨rfl, hb⟩
        go_wp2
        go_ret
        exact ⟨rfl, hb⟩
      · have hv : n < vlen x := by omega
        have h1 := Lib.hid (pv_short (c := c) hr hlen hy (by omega) hv)
        have h2 := Lib.hid (irv (hrv_short (c := c) hr hlen hy (by omega) (by simp at hlen; omega) hE))
        clear hlen hy hr hE
        go_enter Tryd.func4, Tryd.ntmps4
        go_wp2_with fail
        refine h1.out.mono ?_
        rintro e w' ⟨rfl, rfl⟩
        go_wp2_with fail
        refine h2.out.mono ?_
        rintro e w1 ⟨rfl, hb⟩
        go_wp2
        go_ret
        exact ⟨rfl, hb⟩
end Go.Proofs.YtfimelphdmmiaaaDoor.fnReadVarint
