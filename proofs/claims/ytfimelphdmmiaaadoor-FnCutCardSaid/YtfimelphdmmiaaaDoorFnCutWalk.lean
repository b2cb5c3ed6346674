/- The law FnCut: the walk. -/
import Derived.Test.YtfimelphdmmiaaaDoorFnFrameWalk
namespace Go.Proofs.YtfimelphdmmiaaaDoor
open Go Go.RowKit

/-- A frame that breaks off is an error. -/
theorem rf_cut {w : World} {A : Option Addr} {c r : Nat} {a : Int} {ps : List Int} {a0 : Addr} (h0 : 0 ≤ a) (h1 : a ≤ 4611686018427387903) (h31 : ps.length ≤ 2147483647) (hp : Byt ps)
    (hr : Rd .u8 w A ((frame a ps 0).take r)) (hlt : r < (frame a ps 0).length) (hE : Eof w a0) :
    Calls Tryd.prog 39 #[.slice A r c] w fun e w' => (∃ (b c d : Value) (k : Int), k ≠ 0 ∧ e = .returned (.tuple #[b, c, d, .int .i64 k])) ∧ Below w.heap.size w w' := by
  have hK := vk_le (n := a) (least := 0) (by omega)
  have hL := vk_le (n := (ps.length : Int)) (least := 0) (by omega)
  have tK := vk_top (n := a) 0 (by omega) h1
  have tL := vk_top (n := (ps.length : Int)) 0 (by omega) (by omega)
  have hfl := frame_len a ps (least := 0) (by omega)
  have h8 := pow8 hK
  have h8' := pow8 hL
  have hb := (frame_byt (least := 0) h0 h1 (by omega) h31 hp).take r
  have hlen : ((frame a ps 0).take r).length = r := by simp; omega
  unfold frame at hr hb hlen
  generalize vk a 0 = K at *
  generalize vk (ps.length : Int) 0 = L at *
  by_cases c1 : r < 2 ^ K
  · have e : (venc K a ++ (venc L ps.length ++ ps)).take r = (venc K a).take r := by
      rw [List.take_append_of_le_length (by rw [venc_length hK]; omega)]
    rw [e] at hr hb hlen
    refine (hrf_head (c := c) hr hlen hb (by omega) hE fun w1 Q S hS hE1 hQ => rfh_cut1 hS (rv_cut hS hK h0 tK c1 hE1 hQ)).mono ?_
    rintro e w' ⟨⟨k, hk, rfl⟩, hbl⟩
    exact ⟨⟨_, _, _, k, hk, rfl⟩, hbl⟩
  by_cases c2 : r < 2 ^ K + 2 ^ L
  · have e : (venc K a ++ (venc L ps.length ++ ps)).take r = venc K a ++ (venc L ps.length).take (r - 2 ^ K) := by
      rw [List.take_append, List.take_of_length_le (by rw [venc_length hK]; omega), venc_length hK, List.take_append_of_le_length (by rw [venc_length hL]; omega)]
    rw [e] at hr hb hlen
    refine (hrf_head (c := c) hr hlen hb (by omega) hE fun w1 Q S hS hE1 hQ => rfh_cut2 hS hK hL h0 tK (by omega) tL (by omega) hE1 hQ).mono ?_
    rintro e w' ⟨⟨k, hk, rfl⟩, hbl⟩
    exact ⟨⟨_, _, _, k, hk, rfl⟩, hbl⟩
  · have e : (venc K a ++ (venc L ps.length ++ ps)).take r = venc K a ++ (venc L ps.length ++ ps.take (r - 2 ^ K - 2 ^ L)) := by
      rw [List.take_append, List.take_of_length_le (by rw [venc_length hK]; omega), venc_length hK, List.take_append, List.take_of_length_le (by rw [venc_length hL]; omega), venc_length hL]
    rw [e] at hr hb hlen
    refine (hrf_data (c := c) rfl hr hlen hb (by omega) hE hK hL h0 tK tL (by simp; omega) h31).mono ?_
    rintro e w' ⟨⟨k, hk, rfl⟩, hbl⟩
    exact ⟨⟨_, _, _, k, hk, rfl⟩, hbl⟩
namespace fnCut

set_option maxHeartbeats 400000 in
theorem walk {w : World} {a0 a2 : Int} {A1 : Option Addr} {n1 c1 : Nat} {ps : List Int} (h0 : (Lit.int .u64 a0).wf = true) (h1 : Came .u8 w A1 n1 c1 ps) (h2 : (Lit.int .i64 a2).wf = true)
    (hL : laidMetH Tryd.prog [("io.ErrShortBuffer", Rows.laid_io_ErrShortBuffer), ("io.EOF", Rows.laid_io_EOF), ("io.ErrUnexpectedEOF", Rows.laid_io_ErrUnexpectedEOF)] w) :
    Calls Tryd.prog 7 #[.int .u64 a0, .slice A1 n1 c1, .int .i64 a2] w fun e w' => e = .returned (.bool true) ∧ Below w.heap.size w w' := by
  obtain ⟨ae, hE⟩ := eof_of3 hL
  clear hL
  by_cases hbig : 2147483647 < n1
  · clear hE
    go_enter Tryd.func7, Tryd.ntmps7
    go_wp2
    go_ret
    exact ⟨rfl, Below.refl _ _⟩
  have hbig : n1 ≤ 2147483647 := by omega
  have H1 := Lib.hid h1
  have HE := Lib.hid hE
  obtain ⟨hn0, hn1⟩ := bounds_u64 h0
  have hmask := and62 hn0 hn1
  obtain ⟨hm0, hm1⟩ := low62_bound a0
  have hb2 := bounds_i64 h2
  clear h1 hE h0 h2 hn0 hn1
  generalize low62 a0 = N at *
  go_enter Tryd.func7, Tryd.ntmps7
  go_wp2_with fail
  refine (frame_any (least := 0) hm0 hm1 (by omega) H1.out.rd H1.out.len hbig).mono ?_
  rintro e w1 ⟨B1, l1, d1, rfl, hown1, hb1⟩
  have hlen1 := hown1.len
  have hfl := frame_len N ps (least := 0) (by omega)
  rw [H1.out.len] at hfl
  have hl1 : l1 ≤ 2147483663 := by
    have := pow8 (vk_le (n := N) (least := 0) (by omega))
    have := pow8 (vk_le (n := (n1 : Int)) (least := 0) (by omega))
    omega
  have hl0 : 0 < l1 := by
    have : 0 < 2 ^ vk N 0 := Nat.two_pow_pos _
    have : 0 < 2 ^ vk (n1 : Int) 0 := Nat.two_pow_pos _
    omega
  obtain ⟨g, cap, hv, _⟩ := World.ownsRow.form hown1 hl0
  obtain rfl : B1 = some ⟨g, 0, none⟩ := by injection hv
  have hcap := hown1.cap
  have hlz : ((l1 : Int) == 0) = false := by simp; omega
  have hu := Int.tmod_lt_of_pos a2 (show (0 : Int) < l1 by omega)
  have hl := Int.lt_tmod_of_pos a2 (show (0 : Int) < l1 by omega)
  have hm0' : 0 ≤ a2.tmod l1 % l1 := Int.emod_nonneg _ (by omega)
  have hm1' : a2.tmod l1 % l1 < l1 := Int.emod_lt_of_pos _ (by omega)
  obtain ⟨r, hr⟩ : ∃ r : Nat, a2.tmod l1 % l1 = (r : Int) := ⟨(a2.tmod l1 % l1).toNat, by omega⟩
  have hrl : r < l1 := by omega
  have HO1 := Lib.hid hown1
  have HB1 := Lib.hid hb1
  have HL1 := Lib.hid hlen1
  clear hown1 hb1 hfl hlen1 hv hmask
  go_wp2_with fail
  have h := irf (P := fun _ _ _ d _ => ∃ k : Int, k ≠ 0 ∧ d = .int .i64 k) ((rf_cut (c := d1) hm0 hm1 (by rw [H1.out.len]; exact hbig) H1.out.byt (HO1.out.rd.take r) (by rw [HL1.out]; exact hrl) (HE.out.below HB1.out (cell_lt HE.out))).mono fun _ _ ⟨⟨b, c, d, k, hk, he⟩, hb⟩ => ⟨⟨_, _, _, _, he, k, hk, rfl⟩, hb⟩)
  refine h.mono ?_
  rintro e w2 ⟨⟨_, _, _, _, rfl, k, hk, rfl⟩, hb2⟩
  have hkb : (k != 0) = true := by simp; exact hk
  have HB2 := Lib.hid (HB1.out.trans (hb2.mono HB1.out.size))
  clear h hb2
  go_wp2
  go_ret
  exact ⟨rfl, HB2.out⟩
end fnCut
end Go.Proofs.YtfimelphdmmiaaaDoor
