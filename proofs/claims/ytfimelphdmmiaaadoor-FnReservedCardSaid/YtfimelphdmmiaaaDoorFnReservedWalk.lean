/- The law FnReserved: the walk. -/
import Derived.Test.YtfimelphdmmiaaaDoorSet7
namespace Go.Proofs.YtfimelphdmmiaaaDoor
open Go Go.RowKit
namespace fnReserved

set_option maxHeartbeats 400000 in
theorem walk {w : World} {A0 : Option Addr} {n0 c0 : Nat} {xs : List Int} {a1 a2 : Int} (h0 : Came .i64 w A0 n0 c0 xs) (h1 : (Lit.int .i64 a1).wf = true) (_h2 : (Lit.int .i64 a2).wf = true)
    (hL : laidMetH Tryd.prog [("io.EOF", Rows.laid_io_EOF)] w) :
    Calls Tryd.prog 10 #[.slice A0 n0 c0, .int .i64 a1, .int .i64 a2] w fun e w' => e = .returned (.bool true) ∧ Below w.heap.size w w' := by
  obtain ⟨ae, hE⟩ := eof_of hL
  clear hL
  by_cases hbig : 2147483647 < n0
  · clear hE
    go_enter Tryd.func10, Tryd.ntmps10
    go_wp2
    go_ret
    exact ⟨rfl, Below.refl _ _⟩
  have hbig : n0 ≤ 2147483647 := by omega
  have hb1 := bounds_i64 h1
  obtain ⟨v, hv, v0, v1⟩ := and62i a2
  have H0 := Lib.hid h0
  have HE := Lib.hid hE
  have hu := Int.tmod_lt_of_pos a1 (show (0 : Int) < 4 by omega)
  have hl := Int.lt_tmod_of_pos a1 (show (0 : Int) < 4 by omega)
  obtain ⟨r, hr⟩ : ∃ r, 2 + a1.tmod 4 % 4 = r := ⟨_, rfl⟩
  have hr2 : 2 ≤ r ∧ r ≤ 5 := by omega
  clear h0 h1 hE
  go_enter Tryd.func10, Tryd.ntmps10
  go_wp2_with fail
  refine (known_any H0.out hbig).mono ?_
  rintro e w1 ⟨⟨B, l, d, ys, rfl, ho1, ⟨q, hq⟩, hln, hN, hF⟩, hb1'⟩
  have HO1 := Lib.hid ho1
  have HB1 := Lib.hid hb1'
  have HQ := Lib.hid hq
  have HN := Lib.hid hN
  have HF := Lib.hid hF
  have hz1 := hb1'.size
  clear ho1 hb1' hq hN hF
  go_wp2_with (at_builtin; refine wpList_app _ rfl _ _ elem64 rfl w.heap.size B l d ys rfl (HO1.out.alloc _) _ 2 2 [r, v] rfl rfl (Rd.two .i64 w1 r v 2) (by omega) (by omega) (by simp; omega) ?_; intro B2 l2 d2 w2 hl2 hown2 hg2 hat2; have HB2 := Lib.hid (below_app (HB1.out.alloc hz1 _) (HO1.out.alloc _) hg2 (by simp; omega) (Nat.le_refl _)); have HO2 := Lib.hid hown2; have hll2 : l2 ≤ 2147483649 := (by have := hl2.out; omega); clear hown2 hg2 hat2)
  have hl2' : l2 = 2 * (q + 1) := by have := hl2.out; have := HQ.out; omega
  refine (settings_any HO2.out.rd HO2.out.len hl2' (HN.out.append (nums_two (by omega) (by omega) v0 v1)) (by omega)).mono ?_
  rintro e w3 ⟨B3, l3, d3, rfl, ho3, hb3⟩
  have HB3 := Lib.hid (HB2.out.trans (hb3.mono HB2.out.size))
  have hl3 : l3 ≤ 17179869208 := by have := ho3.len; have := (settings_len (ys := ys ++ [r, v])).1; have := HO2.out.len; omega
  have hbyt := settings_byt (rest := []) (HN.out.append (nums_two (t := r) (by omega) (by omega) v0 v1)) (by rw [HO2.out.len]; omega) Byt.nil
  rw [List.append_nil] at hbyt
  have hf := irs (P := fun _ _ c _ => c = .int .i64 265) ((hrs_bad (c := d3) (rest := []) (HE.out.below HB3.out (cell_lt HE.out)) hr2 v0 v1 (by rw [List.append_nil]) ho3.rd ho3.len hbyt (by omega) HO1.out.len HQ.out HN.out HF.out (by omega)).mono fun _ _ ⟨⟨_, _, _, he⟩, hb⟩ => ⟨⟨_, _, _, he, rfl⟩, hb⟩)
  have Hf := Lib.hid hf
  clear hf ho3 hb3 hbyt hl2' hr
  go_wp2_with fail
  refine Hf.out.mono ?_
  rintro e w4 ⟨⟨_, _, _, rfl, rfl⟩, hb4⟩
  have HB4 := Lib.hid (HB3.out.trans (hb4.mono HB3.out.size))
  clear Hf hb4
  go_wp2
  go_ret
  exact ⟨rfl, HB4.out⟩
end fnReserved
end Go.Proofs.YtfimelphdmmiaaaDoor
