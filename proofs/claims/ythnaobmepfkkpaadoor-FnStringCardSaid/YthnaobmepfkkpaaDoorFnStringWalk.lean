/- The law FnString: the walk. -/
import Derived.Test.YthnaobmepfkkpaaDoorStr3
import Derived.Test.YthnaobmepfkkpaaDoorLaid
namespace Go.Proofs.YthnaobmepfkkpaaDoor
open Go Go.RowKit Go.ChangeShapes

/-- AppendString. -/
theorem ias {w : World} {f : Int} {k : Nat} {s : ByteArray} {R : Ending → World → Prop} (h : Calls Tryd.prog 19 #[.slice none 0 0, .int .u8 f, .int .u8 k, .string s] w fun e w' => (∃ A n c xs, e = .returned (.slice A n c) ∧ R e w' ∧ Own .u8 5 w' w.heap.size A n c xs)) :
    Calls Tryd.prog 6 #[.int .u8 f, .int .u8 k, .string s] w R := by
  have H := Lib.hid h
  clear h
  go_enter Tryd.func6, Tryd.ntmps6
  go_wp2_with (go_at_call 13; go_in)
  refine H.out.mono ?_
  rintro e w' ⟨A, n, c, xs, rfl, hR, _⟩
  have HR := Lib.hid hR
  clear hR
  go_wp2
  exact HR.out
theorem ias_yes {w : World} {f : Int} {k : Nat} {s : ByteArray} (hT : TabL w) (hTc : TabC w) (h0 : 0 ≤ f) (h1 : f ≤ 255) (hk : f % 2 ^ (k + 1) = 0) (hk1 : 1 ≤ k) (h7 : k ≤ 7) (hs : s.size ≤ 2147483647) (hc : ((hb s s.size).length + 7) / 8 < s.size) :
    Calls Tryd.prog 6 #[.int .u8 f, .int .u8 k, .string s] w fun e w' => ∃ yn p, HufB s yn p ∧ Wrote w w.heap.size w.heap.size (pint (f + 2 ^ k) k yn.length ++ nz yn) e w' :=
  ias ((aps_any hT hTc h0 h1 hk hk1 h7 hs hc).mono fun e w' h => by
    obtain ⟨yn, p, hH, A, n, c, rfl, ho, hb⟩ := h
    exact ⟨A, n, c, _, rfl, ⟨yn, p, hH, A, n, c, rfl, ho, hb⟩, ho⟩)
theorem ias_no {w : World} {f : Int} {k : Nat} {s : ByteArray} (hT : TabL w) (h0 : 0 ≤ f) (h1 : f ≤ 255) (hk : f % 2 ^ (k + 1) = 0) (hk1 : 1 ≤ k) (h7 : k ≤ 7) (hs : s.size ≤ 2147483647) (hc : ¬ ((hb s s.size).length + 7) / 8 < s.size) :
    Calls Tryd.prog 6 #[.int .u8 f, .int .u8 k, .string s] w (Wrote w w.heap.size w.heap.size (pint f k s.size ++ snum s)) :=
  ias ((aps_plain hT h0 h1 hk hk1 h7 hs hc).mono fun e w' h => by
    obtain ⟨A, n, c, rfl, ho, hb⟩ := h
    exact ⟨A, n, c, _, rfl, ⟨A, n, c, rfl, ho, hb⟩, ho⟩)
namespace fnString

set_option maxRecDepth 100000 in
set_option maxHeartbeats 800000 in
theorem walk {w : World} {a0 a1 : Int} {s : ByteArray} (h0 : (Lit.int .u8 a0).wf = true) (h1 : (Lit.int .i64 a1).wf = true) (_h2 : s.size ≤ maxLen)
    (hL : laidMetH Tryd.prog [("semaphorist/pub/hpack.huffmanCodes", Rows.laid_semaphorist_pub_hpack_huffmanCodes), ("semaphorist/pub/hpack.huffmanCodeLen", Rows.laid_semaphorist_pub_hpack_huffmanCodeLen)] w) :
    Calls Tryd.prog 3 #[.int .u8 a0, .int .i64 a1, .string s] w fun e w' => e = .returned (.bool true) ∧ Below w.heap.size w w' := by
  rw [MakeChecks.laidMetH_plain _ _ _ (by kernel_rfl)] at hL
  have HTC := Lib.hid (tabC_of hL)
  have HTL := Lib.hid (tabL_of hL.tail)
  clear hL
  by_cases hbig : 2147483647 < s.size
  · clear HTC HTL
    go_enter Tryd.func3, Tryd.ntmps3
    go_wp2
    go_ret
    exact ⟨rfl, Below.refl _ _⟩
  have hbig : s.size ≤ 2147483647 := by omega
  obtain ⟨hf0, hf1⟩ := bounds_u8 h0
  have Hp := Lib.hid (pfx a1 7 w h1 (by omega) (by omega))
  clear h0 h1
  go_enter Tryd.func3, Tryd.ntmps3
  go_wp2_with fail
  refine Hp.out.mono ?_
  rintro e w' ⟨⟨p, hp1, hp7, rfl⟩, rfl⟩
  clear Hp
  go_wp2_with fail
  obtain ⟨hF0, hF1, hF2⟩ := high_fit8 (a := a0) (p := p + 1) (by omega) (by omega)
  generalize a0 / 2 ^ (p + 1) * 2 ^ (p + 1) % 256 = F at *
  have HF2 := Lib.hid hF2
  have hwl := HTL.out.lt
  have hwc := HTC.out.lt
  clear hF2 hf0 hf1
  by_cases hc : ((hb s s.size).length + 7) / 8 < s.size
  · have HCc := Lib.hid hc
    obtain ⟨N, hN⟩ : ∃ N, N = ((hb s s.size).length + 7) / 8 := ⟨_, rfl⟩
    have hNs : N < s.size := by omega
    have HN := Lib.hid hN
    clear hc hN
    refine (ias_yes HTL.out HTC.out hF0 hF1 HF2.out hp1 hp7 hbig HCc.out).mono ?_
    rintro e w1 ⟨yn, q, hH, A1, l1, c1, rfl, ho1, hb1⟩
    have HH := Lib.hid hH
    have HO1 := Lib.hid ho1
    have HB1 := Lib.hid hb1
    obtain ⟨hlc, hcm⟩ := ho1.cap
    clear hH ho1 hb1
    go_wp2_with fail
    refine (back_yes hF0 hF1 HF2.out hp1 hp7 hbig HH.out HO1.out.rd HO1.out.len hlc hcm).mono ?_
    rintro e w2 ⟨rfl, hb2⟩
    have HB2 := Lib.hid (HB1.out.trans (hb2.mono HB1.out.size))
    have HO1b := Lib.hid (HO1.out.below hb2 (Nat.le_refl _))
    clear hb2 HO1 HB1
    go_wp2_with fail
    refine (hlen_any hbig).mono ?_
    rintro e w3 ⟨rfl, hb3⟩
    rw [← HN.out]
    have HB3 := Lib.hid (HB2.out.trans (hb3.mono HB2.out.size))
    have HO1c := Lib.hid (HO1b.out.below hb3 (Nat.le_refl _))
    clear hb3 HO1b HB2
    go_wp2_with fail
    refine (string_yes hF0 hF1 HF2.out hp1 hp7 hbig).mono ?_
    rintro e w4 ⟨zn, q2, hH2, A4, l4, c4, rfl, ho4, hb4⟩
    obtain rfl := HH.out.uniq hH2
    have HO4 := Lib.hid ho4
    have HB4 := Lib.hid (HB3.out.trans (hb4.mono HB3.out.size))
    have HO1d := Lib.hid (HO1c.out.below hb4 (Nat.le_refl _))
    have HS := Lib.hid (same_eq (c := c1) (d := c4) HO1d.out.rd HO1d.out.len HO4.out.rd HO4.out.len)
    clear ho4 hb4 hH2 HO1c HB3
    go_wp2_with fail
    refine HS.out.mono ?_
    rintro e w5 ⟨rfl, rfl⟩
    go_wp2
    go_ret
    exact ⟨rfl, HB4.out⟩
  · have HCc := Lib.hid hc
    obtain ⟨N, hN⟩ : ∃ N, N = ((hb s s.size).length + 7) / 8 := ⟨_, rfl⟩
    have hNs : ¬ N < s.size := by omega
    have HN := Lib.hid hN
    clear hc hN
    refine (ias_no HTL.out hF0 hF1 HF2.out hp1 hp7 hbig HCc.out).mono ?_
    rintro e w1 ⟨A1, l1, c1, rfl, ho1, hb1⟩
    have HO1 := Lib.hid ho1
    have HB1 := Lib.hid hb1
    obtain ⟨hlc, hcm⟩ := ho1.cap
    clear ho1 hb1
    go_wp2_with fail
    refine (back_no hF0 hF1 HF2.out hp1 hp7 hbig HO1.out.rd HO1.out.len hlc hcm).mono ?_
    rintro e w2 ⟨rfl, hb2⟩
    have HB2 := Lib.hid (HB1.out.trans (hb2.mono HB1.out.size))
    have HO1b := Lib.hid (HO1.out.below hb2 (Nat.le_refl _))
    clear hb2 HO1 HB1
    go_wp2_with fail
    refine (hlen_any hbig).mono ?_
    rintro e w3 ⟨rfl, hb3⟩
    rw [← HN.out]
    have HB3 := Lib.hid (HB2.out.trans (hb3.mono HB2.out.size))
    have HO1c := Lib.hid (HO1b.out.below hb3 (Nat.le_refl _))
    clear hb3 HO1b HB2
    by_cases hgt : s.size < N
    · go_wp2_with fail
      refine (string_no hF0 hF1 HF2.out hp1 hp7 hbig).mono ?_
      rintro e w4 ⟨A4, l4, c4, rfl, ho4, hb4⟩
      have HO4 := Lib.hid ho4
      have HB4 := Lib.hid (HB3.out.trans (hb4.mono HB3.out.size))
      have HO1d := Lib.hid (HO1c.out.below hb4 (Nat.le_refl _))
      have HS := Lib.hid (same_eq (c := c1) (d := c4) HO1d.out.rd HO1d.out.len HO4.out.rd HO4.out.len)
      clear ho4 hb4 HO1c HB3
      go_wp2_with fail
      refine HS.out.mono ?_
      rintro e w5 ⟨rfl, rfl⟩
      go_wp2
      go_ret
      exact ⟨rfl, HB4.out⟩
    · go_wp2
      go_ret
      exact ⟨rfl, HB3.out⟩
end fnString
end Go.Proofs.YthnaobmepfkkpaaDoor
