/- The law FnVarint: the walk. -/
import Derived.Test.YtfimelphdmmiaaaDoorFnIntWalk
import Derived.Test.YtfimelphdmmiaaaDoorVar2
namespace Go.Proofs.YtfimelphdmmiaaaDoor
open Go Go.RowKit

/-- What venc writes is read back. -/
theorem rv_back {w : World} {A : Option Addr} {l c K : Nat} {n : Int} {rest : List Int} (hK : K ≤ 3) (h0 : 0 ≤ n) (h1 : n < vtop K)
    (hr : Rd .u8 w A (venc K n ++ rest)) (hl : (venc K n ++ rest).length = l) (hy : Byt rest) (h47 : l ≤ 140737488355328) :
    Calls Tryd.prog 16 #[.slice A l c] w fun e w' => e = .returned (.tuple #[.int .i64 n, .int .i64 rest.length, .int .i64 0]) ∧ Below w.heap.size w w' := by
  obtain ⟨x, r, e, hv, hlen, hat, hb⟩ := venc_read hK h0 h1 rest
  rw [e, List.cons_append] at hr hl
  have h2 := irv (hrv_ok (c := c) hr hl (hb.append hy) h47 (by simp; omega))
  rw [hv, hat, show (r ++ rest).drop (2 ^ K - 1) = rest by rw [← hlen, Nat.add_sub_cancel, List.drop_left]] at h2
  exact h2
namespace fnVarint

set_option maxHeartbeats 400000 in
theorem walk {w : World} {a0 a1 : Int} {A : Option Addr} {n c : Nat} {xs : List Int} (h0 : (Lit.int .u64 a0).wf = true) (h1 : (Lit.int .i64 a1).wf = true) (h : Came .u8 w A n c xs) (_hL : laidMetH Tryd.prog [("io.EOF", Rows.laid_io_EOF)] w) :
    Calls Tryd.prog 8 #[.int .u64 a0, .int .i64 a1, .slice A n c] w fun e w' => e = .returned (.bool true) ∧ Below w.heap.size w w' := by
  clear _hL
  by_cases hbig : 2147483647 < n
  · go_enter Tryd.func8, Tryd.ntmps8
    go_wp2
    go_ret
    exact ⟨rfl, Below.refl _ _⟩
  have hbig : n ≤ 2147483647 := by omega
  have HC := Lib.hid h
  obtain ⟨hn0, hn1⟩ := bounds_u64 h0
  have hmask := and62 hn0 hn1
  obtain ⟨hm0, hm1⟩ := low62_bound a0
  have Hp := Lib.hid (pfx a1 4 w h1 (by omega) (by omega))
  clear h h0 h1 hn0 hn1
  generalize low62 a0 = N at *
  go_enter Tryd.func8, Tryd.ntmps8
  go_wp2_with fail
  refine Hp.out.mono ?_
  rintro e w' ⟨⟨p, hp1, hp4, rfl⟩, rfl⟩
  obtain ⟨q, rfl⟩ : ∃ q, p = q + 1 := ⟨p - 1, by omega⟩
  have hq : ((q + 1 : Nat) : Int) - 1 = (q : Int) := by omega
  have hq3 : q ≤ 3 := by omega
  clear Hp hmask
  go_wp2_with fail
  have hv := vk_le (n := N) hq3
  have htop := Lib.hid (vk_top (n := N) q hq3 hm1)
  refine (varint_any hm0 hm1 hq3).mono ?_
  rintro e w1 ⟨A1, l1, c1, rfl, hown1, hb1⟩
  have hl1 : l1 ≤ 8 := by
    have := hown1.len
    rw [venc_length hv] at this
    have : 2 ^ vk N q ≤ 2 ^ 3 := Nat.pow_le_pow_right (by decide) hv
    omega
  have HO1 := Lib.hid hown1
  have HB1 := Lib.hid hb1
  have hz1 := hb1.size
  clear hown1 hb1
  go_wp2_with (at_builtin; refine wpList_app _ rfl _ _ elem8 rfl w.heap.size A1 l1 c1 _ rfl HO1.out A n c xs rfl HC.out.len (HC.out.rd.below HB1.out (Nat.le_refl _)) (by omega) (by omega) hz1 ?_; intro A2 l2 c2 w2 hl2 hown2 hg2 hat2; have hb2 := Lib.hid (below_app HB1.out HO1.out hg2 hz1 (Nat.le_refl _)); have ho2 := Lib.hid hown2; have hll2 : l2 ≤ 2147483655 := (by have := hl2.out; omega); clear hown2 hg2 hat2)
  have h := rv_back (c := c2) hv hm0 htop.out ho2.out.rd ho2.out.len HC.out.byt (by omega)
  rw [HC.out.len] at h
  refine h.mono ?_
  rintro e w3 ⟨rfl, hb3⟩
  have HB3 := Lib.hid (hb2.out.trans (hb3.mono hb2.out.size))
  clear h hb3 hb2 ho2 HO1 HB1
  go_wp2_with fail
  refine (iwv hm0 hm1).mono ?_
  rintro e w4 ⟨A4, l4, c4, rfl, hown4, hb4⟩
  have HO4 := Lib.hid hown4
  have HB4 := Lib.hid (HB3.out.trans (hb4.mono HB3.out.size))
  clear hown4 hb4 HB3
  go_wp2_with fail
  refine (varint_any (least := 0) hm0 hm1 (by omega)).mono ?_
  rintro e w5 ⟨A5, l5, c5, rfl, hown5, hb5⟩
  have h0k : vk N 0 = vcls N := by unfold vk; omega
  rw [h0k] at hown5
  have hs := Lib.hid (same_eq (c := c4) (d := c5) (HO4.out.rd.below hb5 (Nat.le_refl _)) HO4.out.len hown5.rd hown5.len)
  have HB5 := Lib.hid (HB4.out.trans (hb5.mono HB4.out.size))
  clear hown5 hb5 HO4 HB4
  go_wp2_with fail
  refine hs.out.mono ?_
  rintro e w6 ⟨rfl, rfl⟩
  go_wp2_with fail
  refine (size_any hm0 hm1).mono ?_
  rintro e w6 ⟨rfl, rfl⟩
  go_wp2_with fail
  refine (varint_any (least := 0) hm0 hm1 (by omega)).mono ?_
  rintro e w6 ⟨A6, l6, c6, rfl, hown6, hb6⟩
  have hl6 : (2 : Int) ^ vcls N = (l6 : Int) := by
    have := hown6.len
    rw [h0k, venc_length (vcls_le N)] at this
    rw [← this]; simp
  have HB6 := Lib.hid (HB5.out.trans (hb6.mono HB5.out.size))
  rw [hl6]
  clear hown6 hb6 HB5 hl6 h0k
  go_wp2
  go_ret
  exact ⟨rfl, HB6.out⟩
end fnVarint
end Go.Proofs.YtfimelphdmmiaaaDoor
