/- The law FnFrame: the walk. -/
import Derived.Test.YtfimelphdmmiaaaDoorFrm5
namespace Go.Proofs.YtfimelphdmmiaaaDoor
open Go Go.RowKit

theorem frame_byt {a : Int} {p : List Int} {least : Nat} (h0 : 0 ≤ a) (h1 : a ≤ 4611686018427387903) (hl : least ≤ 3) (h31 : p.length ≤ 2147483647) (hp : Byt p) : Byt (frame a p least) := by
  obtain ⟨x, r, e, _, _, _, b1⟩ := venc_read (vk_le (n := a) hl) h0 (vk_top least hl h1) []
  obtain ⟨y, s, e', _, _, _, b2⟩ := venc_read (vk_le (n := (p.length : Int)) hl) (by omega) (vk_top least hl (by omega)) []
  unfold frame
  rw [e, e']
  exact b1.append (b2.append hp)
namespace fnFrame

set_option maxHeartbeats 400000 in
theorem walk {w : World} {a0 a2 : Int} {A1 A3 : Option Addr} {n1 c1 n3 c3 : Nat} {ps rs : List Int} (h0 : (Lit.int .u64 a0).wf = true) (h1 : Came .u8 w A1 n1 c1 ps) (h2 : (Lit.int .i64 a2).wf = true) (h3 : Came .u8 w A3 n3 c3 rs)
    (hL : laidMetH Tryd.prog [("io.ErrShortBuffer", Rows.laid_io_ErrShortBuffer), ("io.EOF", Rows.laid_io_EOF), ("io.ErrUnexpectedEOF", Rows.laid_io_ErrUnexpectedEOF)] w) :
    Calls Tryd.prog 9 #[.int .u64 a0, .slice A1 n1 c1, .int .i64 a2, .slice A3 n3 c3] w fun e w' => e = .returned (.bool true) ∧ Below w.heap.size w w' := by
  obtain ⟨ae, hE⟩ := eof_of3 hL
  clear hL
  by_cases hbig : 2147483647 < n1
  · clear hE
    go_enter Tryd.func9, Tryd.ntmps9
    go_wp2
    go_ret
    exact ⟨rfl, Below.refl _ _⟩
  have hbig : n1 ≤ 2147483647 := by omega
  by_cases hbig3 : 2147483647 < n3
  · clear hE
    go_enter Tryd.func9, Tryd.ntmps9
    go_wp2
    go_ret
    exact ⟨rfl, Below.refl _ _⟩
  have hbig3 : n3 ≤ 2147483647 := by omega
  have H1 := Lib.hid h1
  have H3 := Lib.hid h3
  have HE := Lib.hid hE
  obtain ⟨hn0, hn1⟩ := bounds_u64 h0
  have hmask := and62 hn0 hn1
  obtain ⟨hm0, hm1⟩ := low62_bound a0
  have Hp := Lib.hid (pfx a2 4 w h2 (by omega) (by omega))
  clear h1 h3 hE h0 h2 hn0 hn1
  generalize low62 a0 = N at *
  go_enter Tryd.func9, Tryd.ntmps9
  go_wp2_with fail
  refine Hp.out.mono ?_
  rintro e w' ⟨⟨p, hp1, hp4, rfl⟩, rfl⟩
  obtain ⟨q, rfl⟩ : ∃ q, p = q + 1 := ⟨p - 1, by omega⟩
  have hq3 : q ≤ 3 := by omega
  clear Hp hmask
  go_wp2_with fail
  refine (frame_any hm0 hm1 hq3 H1.out.rd H1.out.len hbig).mono ?_
  rintro e w1 ⟨B1, l1, d1, rfl, hown1, hb1⟩
  have hfl := frame_len N ps hq3
  rw [H1.out.len] at hfl
  have hl1 : l1 ≤ 2147483663 := by
    have := hown1.len
    have := pow8 (vk_le (n := N) hq3)
    have := pow8 (vk_le (n := (n1 : Int)) hq3)
    omega
  have HO1 := Lib.hid hown1
  have HB1 := Lib.hid hb1
  have hz1 := hb1.size
  clear hown1 hb1 hfl
  go_wp2_with (at_builtin; refine wpList_app _ rfl _ _ elem8 rfl w.heap.size B1 l1 d1 _ rfl HO1.out A3 n3 c3 rs rfl H3.out.len (H3.out.rd.below HB1.out (Nat.le_refl _)) (by omega) (by omega) hz1 ?_; intro B2 l2 d2 w2 hl2 hown2 hg2 hat2; have hb2 := Lib.hid (below_app HB1.out HO1.out hg2 hz1 (Nat.le_refl _)); have ho2 := Lib.hid hown2; have hll2 : l2 ≤ 4294967310 := (by have := hl2.out; omega); clear hown2 hg2 hat2)
  have hz2 := hb2.out.size
  have hx : frame N ps q ++ rs = venc (vk N q) N ++ (venc (vk (n1 : Int) q) (n1 : Int) ++ (ps ++ rs)) := by unfold frame; rw [H1.out.len]; simp only [List.append_assoc]
  have HX := Lib.hid hx
  have HY := Lib.hid ((frame_byt hm0 hm1 hq3 (by rw [H1.out.len]; exact hbig) H1.out.byt).append H3.out.byt)
  have Hf := Lib.hid (hrf_ok (c := d2) (m := n1) hx ho2.out.rd ho2.out.len HY.out (by omega) (HE.out.below hb2.out (cell_lt HE.out)) (vk_le hq3) (vk_le hq3) hm0 (vk_top q hq3 hm1) (vk_top q hq3 (by omega)) H1.out.len hbig)
  clear hx
  have h := irf (P := fun a b c d w' => a = .int .i64 N ∧ c = .int .i64 n3 ∧ d = .int .i64 0 ∧ ∃ B, b = .slice B n1 n1 ∧ Rd .u8 w' B ps) (Hf.out.mono fun _ _ ⟨⟨B, he, hr⟩, hb⟩ => ⟨⟨_, _, _, _, he, rfl, by rw [H3.out.len], rfl, B, rfl, hr⟩, hb⟩)
  refine h.mono ?_
  rintro e w3 ⟨⟨_, _, _, _, rfl, rfl, rfl, rfl, B3, rfl, hR3⟩, hb3⟩
  have HB3 := Lib.hid (hb2.out.trans (hb3.mono hz2))
  have ho3 := Lib.hid (ho2.out.below hb3 (Nat.le_refl _))
  have HR3 := Lib.hid hR3
  clear h Hf ho2 hb3 hR3
  have hh := irh (hrh_ok (c := d2) HX.out ho3.out.rd ho3.out.len HY.out (by omega) (vk_le hq3) (vk_le hq3) hm0 (vk_top q hq3 hm1) (by omega) (vk_top q hq3 (by omega)))
  rw [show ((ps ++ rs).length : Int) = (n1 : Int) + (n3 : Int) by rw [List.length_append, H1.out.len, H3.out.len]; omega] at hh
  have HH := Lib.hid hh
  clear hh
  go_wp2_with fail
  refine HH.out.mono ?_
  rintro e w4 ⟨rfl, hb4⟩
  have HB4 := Lib.hid (HB3.out.trans (hb4.mono HB3.out.size))
  have hs := Lib.hid (same_eq (c := n1) (d := c1) (HR3.out.below hb4 (Nat.le_refl _)) H1.out.len (H1.out.rd.below HB4.out (Nat.le_refl _)) H1.out.len)
  clear hb4 HH HR3
  go_wp2_with fail
  refine hs.out.mono ?_
  rintro e w5 ⟨rfl, rfl⟩
  go_wp2
  go_ret
  exact ⟨rfl, HB4.out⟩
end fnFrame
end Go.Proofs.YtfimelphdmmiaaaDoor
