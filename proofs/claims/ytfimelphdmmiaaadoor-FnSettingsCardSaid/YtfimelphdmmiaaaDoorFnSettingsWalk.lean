/- The law FnSettings: the walk. -/
import Derived.Test.YtfimelphdmmiaaaDoorSet7
namespace Go.Proofs.YtfimelphdmmiaaaDoor
open Go Go.RowKit
namespace fnSettings

set_option maxHeartbeats 400000 in
theorem walk {w : World} {A0 A1 : Option Addr} {n0 c0 n1 c1 : Nat} {xs rs : List Int} (h0 : Came .i64 w A0 n0 c0 xs) (h1 : Came .u8 w A1 n1 c1 rs)
    (_hL : laidMetH Tryd.prog [("io.EOF", Rows.laid_io_EOF)] w) :
    Calls Tryd.prog 12 #[.slice A0 n0 c0, .slice A1 n1 c1] w fun e w' => e = .returned (.bool true) ∧ Below w.heap.size w w' := by
  by_cases hbig : 2147483647 < n0
  · go_enter Tryd.func12, Tryd.ntmps12
    go_wp2
    go_ret
    exact ⟨rfl, Below.refl _ _⟩
  have hbig : n0 ≤ 2147483647 := by omega
  by_cases hbig1 : 2147483647 < n1
  · go_enter Tryd.func12, Tryd.ntmps12
    go_wp2
    go_ret
    exact ⟨rfl, Below.refl _ _⟩
  have hbig1 : n1 ≤ 2147483647 := by omega
  have H0 := Lib.hid h0
  have H1 := Lib.hid h1
  clear h0 h1
  go_enter Tryd.func12, Tryd.ntmps12
  go_wp2_with fail
  refine (known_any H0.out hbig).mono ?_
  rintro e w1 ⟨⟨B, l, d, ys, rfl, ho1, ⟨q, hq⟩, hln, hN, hF⟩, hb1⟩
  have HO1 := Lib.hid ho1
  have HB1 := Lib.hid hb1
  have HQ := Lib.hid hq
  have HN := Lib.hid hN
  have HF := Lib.hid hF
  clear ho1 hb1 hq hN hF
  go_wp2_with fail
  refine (iws HO1.out.rd HO1.out.len HN.out (by omega)).mono ?_
  rintro e w2 ⟨B2, l2, d2, rfl, ho2, hb2⟩
  have hl2 : l2 ≤ 17179869192 := by have := ho2.len; have := (settings_len (ys := ys)).1; have := HO1.out.len; omega
  have HO2 := Lib.hid ho2
  have HB2 := Lib.hid (HB1.out.trans (hb2.mono HB1.out.size))
  have HO1b := Lib.hid (HO1.out.below hb2 (Nat.le_refl _))
  have HR1 := Lib.hid (H1.out.rd.below HB2.out (Nat.le_refl _))
  have hz2 := HB2.out.size
  clear ho2 hb2 HO1
  go_wp2_with (first
    | (at_builtin; refine wpList_app _ rfl (.tmp 22) _ elem8 rfl w2.heap.size (some ⟨w2.heap.size, 0, none⟩) 0 0 [] rfl (Own.empty _ _ _ _ (Nat.le_refl _)) B2 l2 d2 (frame 4 (cat ys) 0) rfl HO2.out.len (HO2.out.rd.below ((Below.refl _ _).alloc (Nat.le_refl _) _) (Nat.le_refl _)) (by omega) (by omega) (by simp) ?_; intro A3 l3 c3 w3 hl3 hown3 hg3 hat3; have hb3 := Lib.hid (below_app ((Below.refl w2.heap.size w2).alloc (Nat.le_refl _) _) (Own.empty .u8 5 w2 w2.heap.size (Nat.le_refl _)) hg3 (by simp) (Nat.le_refl _)); have hz3 := hb3.out.size; have hll3 : l3 ≤ 17179869192 := (by have := hl3.out; omega); have ho3 := Lib.hid hown3; clear hown3 hg3 hat3)
    | (at_builtin; refine wpList_app _ rfl (.tmp 24) _ elem8 rfl w2.heap.size A3 l3 c3 ([] ++ frame 4 (cat ys) 0) rfl ho3.out A1 n1 c1 rs rfl H1.out.len (HR1.out.below hb3.out (Nat.le_refl _)) (by omega) (by omega) hz3 ?_; intro A4 l4 c4 w4 hl4 hown4 hg4 hat4; have hb4 := Lib.hid (below_app hb3.out ho3.out hg4 hz3 (Nat.le_refl _)); have hz4 := hb4.out.size; have ho4 := Lib.hid hown4; have hll4 : l4 ≤ 19327352839 := (by have := hl4.out; omega); clear hown4 hg4 hat4))
  have HO4 := Lib.hid (show Own .u8 5 w4 w2.heap.size A4 l4 c4 (frame 4 (cat ys) 0 ++ rs) from by simpa using ho4.out)
  have hf := irs (P := fun a b c w' => (∃ B l d, a = .slice B l d ∧ ys.length = l ∧ Rd .i64 w' B ys) ∧ b = .int .i64 n1 ∧ c = .int .i64 0) ((hrs_ok (c := c4) rfl HO4.out.rd HO4.out.len (settings_byt HN.out (by rw [HO1b.out.len]; omega) H1.out.byt) (by omega) HO1b.out.len HQ.out HN.out HF.out (by omega)).mono fun _ _ ⟨⟨B, l, d, he, hl, hr⟩, hb⟩ => ⟨⟨_, _, _, he, ⟨B, l, d, rfl, hl, hr⟩, by rw [H1.out.len], rfl⟩, hb⟩)
  refine hf.mono ?_
  rintro e w5 ⟨⟨_, _, _, rfl, ⟨B5, l5, d5, rfl, hl5, hr5⟩, rfl, rfl⟩, hb5⟩
  have hb25 := (hb4.out.trans (hb5.mono hz4))
  have HR5 := Lib.hid hr5
  have HL5 := Lib.hid hl5
  have HO2c := Lib.hid (HO2.out.below hb25 (Nat.le_refl _))
  have HO1c := Lib.hid (HO1b.out.below hb25 (Nat.le_refl _))
  have HB5 := Lib.hid (HB2.out.trans (hb25.mono hz2))
  clear hf hb5 hr5 hl5 hb25 HO2 HO1b HO4 ho4 ho3 hb3 hb4 HR1
  go_wp2_with fail
  refine (settings_any HO1c.out.rd HO1c.out.len HQ.out HN.out (by omega)).mono ?_
  rintro e w6 ⟨B6, l6, d6, rfl, ho6, hb6⟩
  have HB6 := Lib.hid (HB5.out.trans (hb6.mono HB5.out.size))
  have hs := Lib.hid (same_eq (c := d2) (d := d6) (HO2c.out.rd.below hb6 (Nat.le_refl _)) HO2c.out.len ho6.rd ho6.len)
  have HR6 := Lib.hid (HR5.out.below hb6 (Nat.le_refl _))
  have HO1d := Lib.hid (HO1c.out.below hb6 (Nat.le_refl _))
  clear ho6 hb6 HR5
  go_wp2_with fail
  refine hs.out.mono ?_
  rintro e w7 ⟨rfl, rfl⟩
  have hi := Lib.hid (ints_eq (c := d5) (d := d) HR6.out HL5.out HO1d.out.rd HO1d.out.len (by have := HL5.out; have := HO1d.out.len; omega))
  clear hs HR6
  go_wp2_with fail
  refine hi.out.mono ?_
  rintro e w8 ⟨rfl, hb8⟩
  have HB8 := Lib.hid (HB6.out.trans (hb8.mono HB6.out.size))
  clear hi hb8
  go_wp2
  go_ret
  exact ⟨rfl, HB8.out⟩
end fnSettings
end Go.Proofs.YtfimelphdmmiaaaDoor
