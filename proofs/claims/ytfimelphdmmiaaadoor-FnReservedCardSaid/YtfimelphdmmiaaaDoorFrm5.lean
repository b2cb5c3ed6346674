/- ReadFrame, ReadHeader; the reference's Frame. -/
import Derived.Test.YtfimelphdmmiaaaDoorFrm4
namespace Go.Proofs.YtfimelphdmmiaaaDoor
open Go Go.RowKit

/-- The reference's frame. -/
def frame (a : Int) (p : List Int) (least : Nat) : List Int := venc (vk a least) a ++ (venc (vk p.length least) p.length ++ p)
theorem pow8 {K : Nat} (h : K ≤ 3) : 2 ^ K ≤ 8 := by
  have : 2 ^ K ≤ 2 ^ 3 := Nat.pow_le_pow_right (by decide) h
  omega
theorem frame_len (a : Int) (p : List Int) {least : Nat} (hl : least ≤ 3) : (frame a p least).length = 2 ^ vk a least + (2 ^ vk p.length least + p.length) := by
  unfold frame
  rw [List.length_append, List.length_append, venc_length (vk_le hl), venc_length (vk_le hl)]

/-- Frame. -/
theorem frame_any {w : World} {a : Int} {A : Option Addr} {n c least : Nat} {p : List Int} (h0 : 0 ≤ a) (h1 : a ≤ 4611686018427387903) (hl : least ≤ 3) (hr : Rd .u8 w A p) (hn : p.length = n) (h31 : n ≤ 2147483647) :
    Calls Tryd.prog 23 #[.int .u64 a, .slice A n c, .int .i64 least] w (Wrote w w.heap.size w.heap.size (frame a p least)) := by
  have HR := Lib.hid hr
  have HN := Lib.hid hn
  have hk1 := Lib.hid (pow8 (vk_le (n := a) hl))
  have hk2 := Lib.hid (pow8 (vk_le (n := (n : Int)) hl))
  clear hr hn
  go_enter Tryd.func23, Tryd.ntmps23
  go_wp2_with fail
  refine (varint_any h0 h1 hl).mono ?_
  rintro e w1 ⟨A1, l1, c1, rfl, hown1, hb1⟩
  have hl1 : l1 ≤ 8 := by
    have := hown1.len
    rw [venc_length (vk_le hl)] at this
    have := hk1.out
    omega
  have HO1 := Lib.hid hown1
  have HB1 := Lib.hid hb1
  clear hown1 hb1
  go_wp2_with fail
  refine (varint_any (n := (n : Int)) (by omega) (by omega) hl).mono ?_
  rintro e w2 ⟨A2, l2, c2, rfl, hown2, hb2⟩
  have hl2 : l2 ≤ 8 := by
    have := hown2.len
    rw [venc_length (vk_le hl)] at this
    have := hk2.out
    omega
  have HO2 := Lib.hid hown2
  have HB2 := Lib.hid (HB1.out.trans (hb2.mono HB1.out.size))
  have HO1b := Lib.hid (HO1.out.below hb2 (Nat.le_refl _))
  have hz2 := HB2.out.size
  clear hown2 hb2 HO1
  go_wp2_with (first
    | (at_builtin; refine wpList_app _ rfl (.tmp 9) _ elem8 rfl w.heap.size A1 l1 c1 _ rfl HO1b.out A2 l2 c2 _ rfl HO2.out.len HO2.out.rd (by omega) (by omega) hz2 ?_; intro A3 l3 c3 w3 hl3 hown3 hg3 hat3; have hb3 := Lib.hid (below_app HB2.out HO1b.out hg3 hz2 (Nat.le_refl _)); have hz3 := hb3.out.size; have hll3 : l3 ≤ 16 := (by have := hl3.out; omega); have ho3 := Lib.hid hown3; clear hown3 hg3 hat3)
    | (at_builtin; refine wpList_app _ rfl (.tmp 15) _ elem8 rfl w.heap.size A3 l3 c3 _ rfl ho3.out A n c p rfl HN.out (HR.out.below hb3.out (Nat.le_refl _)) (by omega) (by omega) hz3 ?_; intro A4 l4 c4 w4 hl4 hown4 hg4 hat4; have hb4 := Lib.hid (below_app hb3.out ho3.out hg4 hz3 (Nat.le_refl _)); have ho4 := Lib.hid hown4; clear hown4 hg4 hat4))
  go_ret
  refine ⟨A4, l4, c4, rfl, ?_, hb4.out⟩
  have := ho4.out
  unfold frame
  rw [HN.out]
  rw [List.append_assoc] at this
  exact this

/-- ReadFrame: the frame is there. -/
theorem hrf_ok {w : World} {A : Option Addr} {n c K L m : Nat} {a : Int} {p rest xs : List Int} {a0 : Addr} (hx : xs = venc K a ++ (venc L (m : Int) ++ (p ++ rest))) (hr : Rd .u8 w A xs) (hn : xs.length = n) (hy : Byt xs) (h47 : n ≤ 140737488355328) (hE : Eof w a0)
    (hK : K ≤ 3) (hL : L ≤ 3) (ha0 : 0 ≤ a) (ha1 : a < vtop K) (hb1 : (m : Int) < vtop L) (hp : p.length = m) (h31 : m ≤ 2147483647) :
    Calls Tryd.prog 39 #[.slice A n c] w fun e w' => (∃ B, e = .returned (.tuple #[.int .i64 a, .slice B m m, .int .i64 rest.length, .int .i64 0]) ∧ Rd .u8 w' B p) ∧ Below w.heap.size w w' := by
  have h0 : 0 < w.heap.size := cell_lt hE
  have HE := Lib.hid hE
  have HP := Lib.hid hp
  have Hr := Lib.hid (reads_any (c := c) hr hn hy h47)
  have HX := Lib.hid hx
  clear hE hp hr hn hy hx
  go_enter Tryd.func39, Tryd.ntmps39
  go_wp2_with fail
  refine Hr.out.mono ?_
  rintro e w1 ⟨Q, S, rfl, hQ, hS, hb1'⟩
  have hQS := hS.2.1
  rw [HX.out] at hS
  have HB1 := Lib.hid hb1'
  have HS := Lib.hid hS
  have HE1 := Lib.hid (HE.out.below hb1' h0)
  clear hS hb1' Hr
  go_wp2_with fail
  refine (rfh_ok HS.out hK hL ha0 ha1 (by omega) hb1).mono ?_
  rintro e w2 ⟨rfl, hS2, hf2⟩
  have HS2 := Lib.hid hS2
  have hSl := hS2.2.2.lt
  have HE2 := Lib.hid (HE1.out.fr hf2 (by omega) (by omega))
  clear hS2 HS
  go_wp2_with fail
  refine (rfd_ok HS2.out HE2.out (by omega) HP.out (by omega)).mono ?_
  rintro e w3 ⟨⟨rfl, hRd⟩, hS3, hf3⟩
  have HS3 := Lib.hid hS3
  have HR3 := Lib.hid hRd
  clear hS3 HS2 hRd
  go_wp2_with fail
  refine (ef_ok HS3.out).mono ?_
  rintro e w4 ⟨rfl, hS4, hf4⟩
  have HB4 := Lib.hid (HB1.out.trans (((hf2.trans hf3).trans hf4).below hQ (by omega) HB1.out.size))
  have HR4 : Hid (Rd .u8 w4 (some ⟨w2.heap.size, 0, none⟩) p) := HR3.out.keep fun q ⟨b, hb, e⟩ hq => by
    have e2 : q.block = w2.heap.size := by rw [e, ← Option.some.inj hb]
    exact World.cell?_of_block (w := w3) (hf4.block q.block hq (by omega) (by omega))
  obtain ⟨A', c', out, hB, _⟩ := hS4.1
  obtain ⟨l, HL⟩ : ∃ l, Hid (l = rest.length) := ⟨_, rfl⟩
  rw [← HL.out] at hB
  have hq : w4.cell? ⟨Q, 0, none⟩ = some (.slice A' l c') := hB.cell 0
  clear hS4 hB HS3
  go_wp2_with fail
  go_quiet ((go_at_call 49; exact Calls.quiet_of_same (code_nil _)))
  go_wp2
  refine bodyPost_ret (results_four rfl _ _ _) rfl ?_
  exact ⟨⟨some ⟨w2.heap.size, 0, none⟩, by rw [← HL.out]; rfl, HR4.out.below (below_drewN (Below.refl w4.heap.size w4) _) (Nat.le_refl _)⟩, below_drewN HB4.out _⟩
/-- ReadFrame: the header breaks off. -/
theorem hrf_head {w : World} {A : Option Addr} {n c : Nat} {xs : List Int} {a0 : Addr} (hr : Rd .u8 w A xs) (hn : xs.length = n) (hy : Byt xs) (h47 : n ≤ 140737488355328) (hE : Eof w a0)
    (hh : ∀ w1 Q S, Stm w1 Q S (-1) xs → Eof w1 a0 → 0 < Q → Calls Tryd.prog 52 #[.pointer (some ⟨S, 0, none⟩)] w1 fun e w' => (∃ t v, e = .returned (.tuple #[.int .i64 0, .iface t v]) ∧ Bad1 a0 t v) ∧ Inp w' Q [] ∧ Fr Q S w1 w') :
    Calls Tryd.prog 39 #[.slice A n c] w fun e w' => (∃ k : Int, k ≠ 0 ∧ e = .returned (.tuple #[.int .i64 0, .slice none 0 0, .int .i64 0, .int .i64 k])) ∧ Below w.heap.size w w' := by
  have h0 : 0 < w.heap.size := cell_lt hE
  have HE := Lib.hid hE
  have Hr := Lib.hid (reads_any (c := c) hr hn hy h47)
  have Hh := Lib.hid hh
  clear hE hr hn hy hh
  go_enter Tryd.func39, Tryd.ntmps39
  go_wp2_with fail
  refine Hr.out.mono ?_
  rintro e w1 ⟨Q, S, rfl, hQ, hS, hb1'⟩
  have hQS := hS.2.1
  have HE1 := Lib.hid (HE.out.below hb1' h0)
  have H1 := Lib.hid (Hh.out w1 Q S hS HE1.out (by omega))
  have HB1 := Lib.hid hb1'
  clear hS hb1' Hr Hh
  go_wp2_with fail
  refine H1.out.mono ?_
  rintro e w2 ⟨⟨t, v, rfl, k, hk, hec⟩, hI, hf2⟩
  have HB2 := Lib.hid (HB1.out.trans (hf2.below hQ (by omega) HB1.out.size))
  have HE2 := Lib.hid (HE.out.below HB2.out h0)
  have Hec := Lib.hid hec
  obtain ⟨A', c', out, hB, _⟩ := hI
  have hq : w2.cell? ⟨Q, 0, none⟩ = some (.slice A' 0 c') := hB.cell 0
  clear hB hec H1
  go_wp2_with fail
  go_quiet ((go_at_call 49; exact Calls.quiet_of_same (code_of (Hec.out _) HE2.out)))
  go_wp2
  refine bodyPost_ret (results_four rfl _ _ _) rfl ?_
  exact ⟨⟨k, hk, rfl⟩, below_drewN HB2.out _⟩

/-- ReadFrame: the data break off. -/
theorem hrf_data {w : World} {A : Option Addr} {n c K L m : Nat} {a : Int} {p xs : List Int} {a0 : Addr} (hx : xs = venc K a ++ (venc L (m : Int) ++ p)) (hr : Rd .u8 w A xs) (hn : xs.length = n) (hy : Byt xs) (h47 : n ≤ 140737488355328) (hE : Eof w a0)
    (hK : K ≤ 3) (hL : L ≤ 3) (ha0 : 0 ≤ a) (ha1 : a < vtop K) (hb1 : (m : Int) < vtop L) (hp : p.length < m) (h31 : m ≤ 2147483647) :
    Calls Tryd.prog 39 #[.slice A n c] w fun e w' => (∃ k : Int, k ≠ 0 ∧ e = .returned (.tuple #[.int .i64 a, .slice none 0 0, .int .i64 0, .int .i64 k])) ∧ Below w.heap.size w w' := by
  have h0 : 0 < w.heap.size := cell_lt hE
  have HE := Lib.hid hE
  have HP := Lib.hid hp
  have Hr := Lib.hid (reads_any (c := c) hr hn hy h47)
  have HX := Lib.hid hx
  clear hE hp hr hn hy hx
  go_enter Tryd.func39, Tryd.ntmps39
  go_wp2_with fail
  refine Hr.out.mono ?_
  rintro e w1 ⟨Q, S, rfl, hQ, hS, hb1'⟩
  have hQS := hS.2.1
  rw [HX.out] at hS
  have HB1 := Lib.hid hb1'
  have HS := Lib.hid hS
  have HE1 := Lib.hid (HE.out.below hb1' h0)
  clear hS hb1' Hr
  go_wp2_with fail
  refine (rfh_ok HS.out hK hL ha0 ha1 (by omega) hb1).mono ?_
  rintro e w2 ⟨rfl, hS2, hf2⟩
  have HS2 := Lib.hid hS2
  have HE2 := Lib.hid (HE1.out.fr hf2 (by omega) (by omega))
  clear hS2 HS
  go_wp2_with fail
  refine (rfd_cut HS2.out HE2.out (by omega) HP.out (by omega)).mono ?_
  rintro e w3 ⟨rfl, hI, hf3⟩
  have HB3 := Lib.hid (HB1.out.trans ((hf2.trans hf3).below hQ (by omega) HB1.out.size))
  have HE3 := Lib.hid (HE.out.below HB3.out h0)
  obtain ⟨A', c', out, hB, _⟩ := hI
  have hq : w3.cell? ⟨Q, 0, none⟩ = some (.slice A' 0 c') := hB.cell 0
  clear hB HS2
  go_wp2_with fail
  go_quiet ((go_at_call 49; exact Calls.quiet_of_same (code_of (.inl rfl) HE3.out)))
  go_wp2
  refine bodyPost_ret (results_four rfl _ _ _) rfl ?_
  exact ⟨⟨262, by decide, rfl⟩, below_drewN HB3.out _⟩

/-- ReadHeader: type and length are there. -/
theorem hrh_ok {w : World} {A : Option Addr} {n c K L : Nat} {a b : Int} {rest xs : List Int} (hx : xs = venc K a ++ (venc L b ++ rest)) (hr : Rd .u8 w A xs) (hn : xs.length = n) (hy : Byt xs) (h47 : n ≤ 140737488355328)
    (hK : K ≤ 3) (hL : L ≤ 3) (ha0 : 0 ≤ a) (ha1 : a < vtop K) (hb0 : 0 ≤ b) (hb1 : b < vtop L) :
    Calls Tryd.prog 42 #[.slice A n c] w fun e w' => e = .returned (.tuple #[.int .i64 a, .int .i64 b, .int .i64 rest.length, .int .i64 0]) ∧ Below w.heap.size w w' := by
  have Hr := Lib.hid (reads_any (c := c) hr hn hy h47)
  have HX := Lib.hid hx
  clear hr hn hy hx
  go_enter Tryd.func42, Tryd.ntmps42
  go_wp2_with fail
  refine Hr.out.mono ?_
  rintro e w1 ⟨Q, S, rfl, hQ, hS, hb1'⟩
  have hQS := hS.2.1
  rw [HX.out] at hS
  have HB1 := Lib.hid hb1'
  have HS := Lib.hid hS
  clear hS hb1' Hr
  go_wp2_with fail
  refine (rfh_ok HS.out hK hL ha0 ha1 hb0 hb1).mono ?_
  rintro e w2 ⟨rfl, hS2, hf2⟩
  have HB2 := Lib.hid (HB1.out.trans (hf2.below hQ (by omega) HB1.out.size))
  have s1 : w2.cell? ⟨S, 1, none⟩ = some (.int .i64 b) := hS2.2.2.cell 1
  obtain ⟨A', c', out, hB, _⟩ := hS2.1
  obtain ⟨l, HL⟩ : ∃ l, Hid (l = rest.length) := ⟨_, rfl⟩
  rw [← HL.out] at hB
  have hq : w2.cell? ⟨Q, 0, none⟩ = some (.slice A' l c') := hB.cell 0
  clear hB HS hS2
  go_wp2_with fail
  go_quiet ((go_at_call 49; exact Calls.quiet_of_same (code_nil _)))
  go_wp2
  refine bodyPost_ret (results_four rfl _ _ _) rfl ?_
  exact ⟨by rw [← HL.out]; rfl, below_drewN HB2.out _⟩

/-- The thin package hands on what the package gives. -/
theorem irf {w : World} {v : Value} {P : Value → Value → Value → Value → World → Prop} (h : Calls Tryd.prog 39 #[v] w fun e w' => (∃ a b c d, e = .returned (.tuple #[a, b, c, d]) ∧ P a b c d w') ∧ Below w.heap.size w w') :
    Calls Tryd.prog 24 #[v] w fun e w' => (∃ a b c d, e = .returned (.tuple #[a, b, c, d]) ∧ P a b c d w') ∧ Below w.heap.size w w' := by
  have H := Lib.hid h
  clear h
  go_enter Tryd.func24, Tryd.ntmps24
  go_wp2_with fail
  refine H.out.mono ?_
  rintro e w1 ⟨⟨a, b, c, d, rfl, hP⟩, hb⟩
  have HP := Lib.hid hP
  clear hP H
  go_wp2
  refine bodyPost_ret (results_four rfl _ _ _) rfl ?_
  exact ⟨⟨a, b, c, d, rfl, HP.out⟩, hb⟩
theorem irh {w : World} {v : Value} {a b c d : Value} (h : Calls Tryd.prog 42 #[v] w fun e w' => e = .returned (.tuple #[a, b, c, d]) ∧ Below w.heap.size w w') :
    Calls Tryd.prog 28 #[v] w fun e w' => e = .returned (.tuple #[a, b, c, d]) ∧ Below w.heap.size w w' := by
  have H := Lib.hid h
  clear h
  go_enter Tryd.func28, Tryd.ntmps28
  go_wp2_with fail
  refine H.out.mono ?_
  rintro e w1 ⟨rfl, hb⟩
  go_wp2
  refine bodyPost_ret (results_four rfl _ _ _) rfl ?_
  exact ⟨rfl, hb⟩
end Go.Proofs.YtfimelphdmmiaaaDoor
