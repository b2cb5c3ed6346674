/- Settings: ReadSettings. -/
import Derived.Test.YtfimelphdmmiaaaDoorSet6
namespace Go.Proofs.YtfimelphdmmiaaaDoor
open Go Go.RowKit

theorem results_cell_two {fn : Func} {p u x : Tmp} {ty : TypeId} (h : fn.results = #[.cell p ty, .tmp u, .tmp x]) (tmps : Array Value) (P : Program) (w : World) :
    (results fn tmps).run P w =
      ((asAddr (tmps.getD p undef)).run P w).andThen fun a w₁ => ((loadVar ty a).run P w₁).andThen fun v w₂ => .ok (.tuple #[v, tmps.getD u undef, tmps.getD x undef]) w₂ := by
  simp only [results, h]
  simp [Sem.run_bind, Result.andThen]
theorem frame_split (ys rest : List Int) : frame 4 (cat ys) 0 ++ rest = venc (vcls 4) 4 ++ (venc (vcls ((cat ys).length : Int)) ((cat ys).length : Int) ++ (cat ys ++ rest)) := by unfold frame; rw [vk0, vk0]; simp only [List.append_assoc]

set_option maxHeartbeats 800000 in
theorem hrs_ok {w : World} {A : Option Addr} {n c m h : Nat} {ys rest xs : List Int} (hx : xs = frame 4 (cat ys) 0 ++ rest) (hr : Rd .u8 w A xs) (hn : xs.length = n) (hy : Byt xs) (h47 : n ≤ 140737488355328) (hm : ys.length = m) (he : m = 2 * h) (hN : Nums ys) (hF : Fine ys) (h32 : m ≤ 4294967296) :
    Calls Tryd.prog 43 #[.slice A n c] w fun e w' => (∃ B l d, e = .returned (.tuple #[.slice B l d, .int .i64 rest.length, .int .i64 0]) ∧ ys.length = l ∧ Rd .i64 w' B ys) ∧ Below w.heap.size w w' := by
  have HR := Lib.hid (hr.below ((Below.refl w.heap.size w).alloc (Nat.le_refl _) (.cells #[.slice none 0 0] 51)) (Nat.le_refl _))
  have Hr := Lib.hid (reads_any (c := c) HR.out hn hy h47)
  have HX := Lib.hid hx
  have HMh := Lib.hid hm
  have HEv := Lib.hid he
  have HNu := Lib.hid hN
  have HF := Lib.hid hF
  have hmf := run_makeFunc
  have hbox := Blk.new w 51 #[.slice none 0 0]
  have HBx := Lib.hid hbox
  clear hx hr hn hy hm he hN hF HR hbox
  go_enter Tryd.func43, Tryd.ntmps43
  go_wp2_with fail
  refine Hr.out.mono ?_
  rintro e w1 ⟨Q, S, rfl, hQ, hS, hb1⟩
  have hQS := hS.2.1
  rw [HX.out] at hS
  have hQ' : w.heap.size + 1 ≤ Q := by simpa using hQ
  have hSl := hS.2.2.lt
  have Hbx1 := Lib.hid (HBx.out.below hb1 (by simp))
  have HB1 := Lib.hid (((Below.refl w.heap.size w).alloc (Nat.le_refl _) (.cells #[.slice none 0 0] 51)).trans (hb1.mono (by simp)))
  have HS := Lib.hid hS
  clear hS hb1 Hr HBx hQ
  go_wp2_with fail
  refine (rds_ok (B := w.heap.size) (base := w1.heap.size) HS.out Hbx1.out (Nat.le_refl _) (by omega) hSl (Nat.le_refl _) HMh.out HEv.out HNu.out HF.out h32).mono ?_
  rintro e w2 ⟨rfl, hS2, ⟨A2, l2, c2, hbx2, ho2⟩, hb2⟩
  have HB2 := Lib.hid (HB1.out.trans hb2)
  obtain ⟨A', c', out, hBq, _⟩ := hS2.1
  obtain ⟨l, HL⟩ : ∃ l, Hid (l = rest.length) := ⟨_, rfl⟩
  rw [← HL.out] at hBq
  have hq : w2.cell? ⟨Q, 0, none⟩ = some (.slice A' l c') := hBq.cell 0
  have hp : w2.cell? ⟨w.heap.size, 0, none⟩ = some (.slice A2 l2 c2) := hbx2.cell 0
  have hf : w2.frozen? ⟨w.heap.size, 0, none⟩ = false := hbx2.frozen 0
  have HO2 := Lib.hid ho2
  have Hbx2 := Lib.hid hbx2
  have hbx3 := hbx2.put 0 (.slice A2 l2 c2)
  have hp3 := Lib.hid (show (w2.setCell ⟨w.heap.size, 0, none⟩ (.slice A2 l2 c2)).cell? ⟨w.heap.size, 0, none⟩ = some (.slice A2 l2 c2) from by simpa using hbx3.cell 0)
  have hq3 := Lib.hid ((hBq.far (p := ⟨w.heap.size, 0, none⟩) (by simp; omega) (.slice A2 l2 c2)).cell 0)
  clear hS2 hBq HS ho2 hbx2 hb2 Hbx1 hmf hbx3
  go_wp2_with fail
  go_region_held3 (fun W => W.cell? ⟨w.heap.size, 0, none⟩ = some (.slice A2 l2 c2) ∧ W.cell? ⟨Q, 0, none⟩ = some (.slice A' l c')) (first | exact ⟨hp, hq⟩ | exact ⟨hp3.out, hq3.out⟩) (first | (go_at_call 49; refine (code_nil _).mono ?_; rintro e w' ⟨rfl, rfl⟩))
  have hp4 : (w2.setCell ⟨w.heap.size, 0, none⟩ (.slice A2 l2 c2)).drew.cell? ⟨w.heap.size, 0, none⟩ = some (.slice A2 l2 c2) := hp3.out
  go_wp2
  refine bodyPost_ret (v := .tuple #[.slice A2 l2 c2, .int .i64 l, .int .i64 0]) ?_ rfl ?_
  · rw [results_cell_two rfl]
    go_simp
  have hb := HB2.out.setCell (p := ⟨w.heap.size, 0, none⟩) (Nat.le_refl _) (.slice A2 l2 c2)
  have hw1 := HB1.out.size
  refine ⟨⟨A2, l2, c2, by rw [← HL.out], HO2.out.len, ?_⟩, ⟨hb.os, hb.tape, hb.output, hb.size, hb.block⟩⟩
  have := HO2.out.keep (w' := w2.setCell ⟨w.heap.size, 0, none⟩ (.slice A2 l2 c2)) fun g hg => Below.heap_setCell _ _ _ _ (by have := (HO2.out.block g hg).1; simp; omega)
  exact this.rd
set_option maxHeartbeats 800000 in
theorem hrs_bad {w : World} {A : Option Addr} {n c m h : Nat} {ys rest xs : List Int} {r v : Int} {a0 : Addr} (hE : Eof w a0) (hr2 : 2 ≤ r ∧ r ≤ 5) (hv0 : 0 ≤ v) (hv1 : v ≤ 4611686018427387903) (hx : xs = frame 4 (cat (ys ++ [r, v])) 0 ++ rest) (hr : Rd .u8 w A xs) (hn : xs.length = n) (hy : Byt xs) (h47 : n ≤ 140737488355328) (hm : ys.length = m) (he : m = 2 * h) (hN : Nums ys) (hF : Fine ys) (h32 : m ≤ 4294967296) :
    Calls Tryd.prog 43 #[.slice A n c] w fun e w' => (∃ B l d, e = .returned (.tuple #[.slice B l d, .int .i64 rest.length, .int .i64 265])) ∧ Below w.heap.size w w' := by
  have HR := Lib.hid (hr.below ((Below.refl w.heap.size w).alloc (Nat.le_refl _) (.cells #[.slice none 0 0] 51)) (Nat.le_refl _))
  have Hr := Lib.hid (reads_any (c := c) HR.out hn hy h47)
  have HX := Lib.hid hx
  have HE := Lib.hid hE
  have HMh := Lib.hid hm
  have HEv := Lib.hid he
  have HNu := Lib.hid hN
  have HF := Lib.hid hF
  have hmf := run_makeFunc
  have hbox := Blk.new w 51 #[.slice none 0 0]
  have HBx := Lib.hid hbox
  clear hx hr hn hy hm he hN hF HR hbox hE
  go_enter Tryd.func43, Tryd.ntmps43
  go_wp2_with fail
  refine Hr.out.mono ?_
  rintro e w1 ⟨Q, S, rfl, hQ, hS, hb1⟩
  have hQS := hS.2.1
  rw [HX.out] at hS
  have hQ' : w.heap.size + 1 ≤ Q := by simpa using hQ
  have hSl := hS.2.2.lt
  have Hbx1 := Lib.hid (HBx.out.below hb1 (by simp))
  have HB1 := Lib.hid (((Below.refl w.heap.size w).alloc (Nat.le_refl _) (.cells #[.slice none 0 0] 51)).trans (hb1.mono (by simp)))
  have HS := Lib.hid hS
  clear hS hb1 Hr HBx hQ
  go_wp2_with fail
  refine (rds_bad hr2 hv0 hv1 (B := w.heap.size) (base := w1.heap.size) HS.out Hbx1.out (Nat.le_refl _) (by omega) hSl (Nat.le_refl _) HMh.out HEv.out HNu.out HF.out h32).mono ?_
  rintro e w2 ⟨⟨ge, rfl, hge⟩, hI2, ⟨A2, l2, c2, hbx2⟩, hb2⟩
  have Hge := Lib.hid hge
  have HB2 := Lib.hid (HB1.out.trans hb2)
  obtain ⟨A', c', out, hBq, _⟩ := hI2
  have HE2 := Lib.hid (HE.out.below HB2.out (cell_lt HE.out))
  obtain ⟨l, HL⟩ : ∃ l, Hid (l = rest.length) := ⟨_, rfl⟩
  rw [← HL.out] at hBq
  have hq : w2.cell? ⟨Q, 0, none⟩ = some (.slice A' l c') := hBq.cell 0
  have hp : w2.cell? ⟨w.heap.size, 0, none⟩ = some (.slice A2 l2 c2) := hbx2.cell 0
  have hf : w2.frozen? ⟨w.heap.size, 0, none⟩ = false := hbx2.frozen 0
  have Hbx2 := Lib.hid hbx2
  have hbx3 := hbx2.put 0 (.slice A2 l2 c2)
  have hp3 := Lib.hid (show (w2.setCell ⟨w.heap.size, 0, none⟩ (.slice A2 l2 c2)).cell? ⟨w.heap.size, 0, none⟩ = some (.slice A2 l2 c2) from by simpa using hbx3.cell 0)
  have hq3 := Lib.hid ((hBq.far (p := ⟨w.heap.size, 0, none⟩) (by simp; omega) (.slice A2 l2 c2)).cell 0)
  clear hBq HS hbx2 hge hb2 Hbx1 hmf hbx3
  go_wp2_with fail
  go_region_held3 (fun W => W.cell? ⟨w.heap.size, 0, none⟩ = some (.slice A2 l2 c2) ∧ W.cell? ⟨Q, 0, none⟩ = some (.slice A' l c')) (first | exact ⟨hp, hq⟩ | exact ⟨hp3.out, hq3.out⟩) (first | (go_at_call 49; refine (code_of (w := w2.drew) (.inr (.inr (.inl ⟨ge, rfl, Hge.out⟩))) HE2.out).mono ?_; rintro e w' ⟨rfl, rfl⟩))
  have hp4 : (w2.setCell ⟨w.heap.size, 0, none⟩ (.slice A2 l2 c2)).drew.cell? ⟨w.heap.size, 0, none⟩ = some (.slice A2 l2 c2) := hp3.out
  go_wp2
  refine bodyPost_ret (v := .tuple #[.slice A2 l2 c2, .int .i64 l, .int .i64 265]) ?_ rfl ?_
  · rw [results_cell_two rfl]
    go_simp
  have hb := HB2.out.setCell (p := ⟨w.heap.size, 0, none⟩) (Nat.le_refl _) (.slice A2 l2 c2)
  exact ⟨⟨A2, l2, c2, by rw [← HL.out]⟩, ⟨hb.os, hb.tape, hb.output, hb.size, hb.block⟩⟩

/-- The thin package hands on what the package gives. -/
theorem irs {w : World} {v : Value} {P : Value → Value → Value → World → Prop} (h : Calls Tryd.prog 43 #[v] w fun e w' => (∃ a b c, e = .returned (.tuple #[a, b, c]) ∧ P a b c w') ∧ Below w.heap.size w w') :
    Calls Tryd.prog 30 #[v] w fun e w' => (∃ a b c, e = .returned (.tuple #[a, b, c]) ∧ P a b c w') ∧ Below w.heap.size w w' := by
  have H := Lib.hid h
  clear h
  go_enter Tryd.func30, Tryd.ntmps30
  go_wp2_with fail
  refine H.out.mono ?_
  rintro e w1 ⟨⟨a, b, c, rfl, hP⟩, hb⟩
  have HP := Lib.hid hP
  clear hP H
  go_wp2
  go_ret3
  exact ⟨⟨a, b, c, rfl, HP.out⟩, hb⟩

theorem venc_byt {k : Nat} {n : Int} (hk : k ≤ 3) (h0 : 0 ≤ n) (h1 : n < vtop k) : Byt (venc k n) := by
  obtain ⟨x, r, e, _, _, _, b⟩ := venc_read hk h0 h1 []
  rw [e]; exact b
theorem settings_byt {ys rest : List Int} (hN : Nums ys) (hl : ys.length ≤ 4294967296) (hr : Byt rest) : Byt (frame 4 (cat ys) 0 ++ rest) := by
  have := cat_len ys
  rw [frame_split]
  exact (venc_byt (vcls_le _) (by omega) (top_cls (by omega))).append ((venc_byt (vcls_le _) (by omega) (top_cls (by omega))).append ((cat_byt hN).append hr))
theorem settings_len {ys : List Int} : (frame 4 (cat ys) 0).length ≤ 16 + 8 * ys.length ∧ 0 < (frame 4 (cat ys) 0).length := by
  have h := frame_len 4 (cat ys) (least := 0) (by omega)
  have := cat_len ys
  have := pow8 (vk_le (n := 4) (least := 0) (by omega))
  have := pow8 (vk_le (n := ((cat ys).length : Int)) (least := 0) (by omega))
  have := Nat.two_pow_pos (vk 4 0)
  have := Nat.two_pow_pos (vk ((cat ys).length : Int) 0)
  omega
end Go.Proofs.YtfimelphdmmiaaaDoor
