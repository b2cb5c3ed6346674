/- The law FnSkip: the walk. -/
import Derived.Test.YtfimelphdmmiaaaDoorSkp1
import Derived.Test.YtfimelphdmmiaaaDoorFnFrameWalk
namespace Go.Proofs.YtfimelphdmmiaaaDoor
open Go Go.RowKit
namespace fnSkip

set_option maxHeartbeats 400000 in
theorem walk {w : World} {a0 : Int} {A1 A2 : Option Addr} {n1 c1 n2 c2 : Nat} {ps rs : List Int} (h0 : (Lit.int .u64 a0).wf = true) (h1 : Came .u8 w A1 n1 c1 ps) (h3 : Came .u8 w A2 n2 c2 rs)
    (hL : laidMetH Tryd.prog [("io.EOF", Rows.laid_io_EOF)] w) :
    Calls Tryd.prog 11 #[.int .u64 a0, .slice A1 n1 c1, .slice A2 n2 c2] w fun e w' => e = .returned (.bool true) ∧ Below w.heap.size w w' := by
  obtain ⟨ae, hE⟩ := eof_of hL
  clear hL
  by_cases hbig : 2147483647 < n1
  · clear hE
    go_enter Tryd.func11, Tryd.ntmps11
    go_wp2
    go_ret
    exact ⟨rfl, Below.refl _ _⟩
  have hbig : n1 ≤ 2147483647 := by omega
  by_cases hbig3 : 2147483647 < n2
  · clear hE
    go_enter Tryd.func11, Tryd.ntmps11
    go_wp2
    go_ret
    exact ⟨rfl, Below.refl _ _⟩
  have hbig3 : n2 ≤ 2147483647 := by omega
  have H1 := Lib.hid h1
  have H3 := Lib.hid h3
  have HE := Lib.hid hE
  obtain ⟨hn0, hn1⟩ := bounds_u64 h0
  have hmask := and62 hn0 hn1
  obtain ⟨hm0, hm1⟩ := low62_bound a0
  clear h1 h3 hE h0 hn0 hn1
  generalize low62 a0 = N at *
  go_enter Tryd.func11, Tryd.ntmps11
  go_wp2_with fail
  refine (frame_any (least := 0) hm0 hm1 (by omega) H1.out.rd H1.out.len hbig).mono ?_
  rintro e w1 ⟨B1, l1, d1, rfl, hown1, hb1⟩
  have hfl := frame_len N ps (least := 0) (by omega)
  rw [H1.out.len] at hfl
  have hl1 : l1 ≤ 2147483663 := by
    have := hown1.len
    have := pow8 (vk_le (n := N) (least := 0) (by omega))
    have := pow8 (vk_le (n := (n1 : Int)) (least := 0) (by omega))
    omega
  have HO1 := Lib.hid hown1
  have HB1 := Lib.hid hb1
  have hz1 := hb1.size
  clear hown1 hb1 hfl hmask
  go_wp2_with (at_builtin; refine wpList_app _ rfl _ _ elem8 rfl w.heap.size B1 l1 d1 _ rfl HO1.out A2 n2 c2 rs rfl H3.out.len (H3.out.rd.below HB1.out (Nat.le_refl _)) (by omega) (by omega) hz1 ?_; intro B2 l2 d2 w2 hl2 hown2 hg2 hat2; have hb2 := Lib.hid (below_app HB1.out HO1.out hg2 hz1 (Nat.le_refl _)); have ho2 := Lib.hid hown2; have hll2 : l2 ≤ 4294967310 := (by have := hl2.out; omega); clear hown2 hg2 hat2)
  have hz2 := hb2.out.size
  have hx : frame N ps 0 ++ rs = venc (vk N 0) N ++ (venc (vk (n1 : Int) 0) (n1 : Int) ++ (ps ++ rs)) := by unfold frame; rw [H1.out.len]; simp only [List.append_assoc]
  have HX := Lib.hid hx
  have HY := Lib.hid ((frame_byt (least := 0) hm0 hm1 (by omega) (by rw [H1.out.len]; exact hbig) H1.out.byt).append H3.out.byt)
  have HE2 := Lib.hid (HE.out.below hb2.out (cell_lt HE.out))
  have vK := vk_le (n := N) (least := 0) (by omega)
  have vL := vk_le (n := (n1 : Int)) (least := 0) (by omega)
  have tK := vk_top (n := N) 0 (by omega) hm1
  have tL := vk_top (n := (n1 : Int)) 0 (by omega) (by omega)
  by_cases hk : Named N
  · have hf := isf (hsf_named (c := d2) hk HX.out ho2.out.rd ho2.out.len HY.out (by omega) HE2.out vK vL hm0 tK (by omega) tL)
    have HF := Lib.hid hf
    clear hf hx HE2 HX HY
    refine HF.out.mono ?_
    rintro e w3 ⟨rfl, hb3⟩
    have HB3 := Lib.hid (hb2.out.trans (hb3.mono hz2))
    clear HF hb3 vK vL tK tL
    rcases hk with rfl | rfl | rfl | rfl | rfl | rfl | rfl
    all_goals
      go_wp2
      go_ret
      exact ⟨rfl, HB3.out⟩
  · have hf := isf (hsf_ok (c := d2) (m := n1) hk HX.out ho2.out.rd ho2.out.len HY.out (by omega) HE2.out vK vL hm0 tK tL H1.out.len hbig)
    rw [H3.out.len] at hf
    have HF := Lib.hid hf
    clear hf hx HE2 HX HY
    unfold Named at hk
    have k0 : (N == 0) = false := by simp; omega
    have k1 : (N == 1) = false := by simp; omega
    have k3 : (N == 3) = false := by simp; omega
    have k4 : (N == 4) = false := by simp; omega
    have k5 : (N == 5) = false := by simp; omega
    have k7 : (N == 7) = false := by simp; omega
    have k13 : (N == 13) = false := by simp; omega
    refine HF.out.mono ?_
    rintro e w3 ⟨rfl, hb3⟩
    have HB3 := Lib.hid (hb2.out.trans (hb3.mono hz2))
    clear HF hb3 vK vL tK tL hk
    by_cases h13 : N ≤ 13
    all_goals
      go_wp2
      go_ret
      exact ⟨rfl, HB3.out⟩
end fnSkip
end Go.Proofs.YtfimelphdmmiaaaDoor
