/- The law FnName: the walk. -/
import Derived.Test.YtfimelphdmmiaaaDoorNam3
namespace Go.Proofs.YtfimelphdmmiaaaDoor
open Go Go.RowKit Go.ChangeShapes

theorem okk_a : okk ⟨#[97]⟩ = true := by decide +kernel
namespace fnName

set_option maxHeartbeats 400000 in
theorem walk {w : World} {s : ByteArray} (_h0 : s.size ≤ maxLen)
    (hL : laidMetH Tryd.prog [("semaphorist/pub/httpguts.isTokenTable", Rows.laid_semaphorist_pub_httpguts_isTokenTable)] w) :
    Calls Tryd.prog 3 #[.string s] w fun e w' => e = .returned (.bool true) ∧ Below w.heap.size w w' := by
  have HT := Lib.hid (tok_of hL)
  clear hL
  by_cases hbig : 2147483647 < s.size
  · clear HT
    go_enter Tryd.func3, Tryd.ntmps3
    go_wp2
    go_ret
    exact ⟨rfl, Below.refl _ _⟩
  have hbig : s.size ≤ 2147483647 := by omega
  have h1 := Lib.hid (iva HT.out hbig)
  have hlt := HT.out.lt
  go_enter Tryd.func3, Tryd.ntmps3
  go_wp2_with fail
  refine h1.out.mono ?_
  rintro e w1 ⟨rfl, hb1⟩
  have HB1 := Lib.hid hb1
  have h2 := Lib.hid (token_any (w := w1) hbig)
  clear h1 hb1
  go_wp2_with fail
  refine h2.out.mono ?_
  rintro e w2 ⟨rfl, hb2⟩
  have HB2 := Lib.hid (HB1.out.trans (hb2.mono HB1.out.size))
  have h3 := iva (s := ⟨#[97]⟩) (HT.out.below HB2.out hlt) (by decide)
  rw [okk_a] at h3
  have H3 := Lib.hid h3
  clear h2 hb2 h3
  generalize okk s = v at *
  cases v
  all_goals
    go_wp2_with fail
    refine H3.out.mono ?_
    rintro e w3 ⟨rfl, hb3⟩
    have HB3 := Lib.hid (HB2.out.trans (hb3.mono HB2.out.size))
    clear hb3
    go_wp2
    go_ret
    exact ⟨rfl, HB3.out⟩
end fnName
end Go.Proofs.YtfimelphdmmiaaaDoor
