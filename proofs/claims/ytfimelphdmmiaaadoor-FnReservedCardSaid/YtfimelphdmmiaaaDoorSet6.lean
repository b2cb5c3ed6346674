/- Settings: what the package reads (readSettings). Printed by wip/tpl/Set6.py. -/
import Derived.Test.YtfimelphdmmiaaaDoorSet5
namespace Go.Proofs.YtfimelphdmmiaaaDoor
open Go Go.RowKit

theorem FrB.low {B D P : Nat} {w w' : World} (h : FrB D P P w w') (hD : B ≤ D) (hP : B ≤ P) : Below B w w' := ⟨h.os, h.tape, h.output, h.size, fun k hk => h.block k (by omega) (by omega) (by omega)⟩
theorem Own.fr {k : IntKind} {e : TypeId} {w w' : World} {base n c Q S : Nat} {A : Option Addr} {xs : List Int} (h : Own k e w base A n c xs) (hf : Fr Q S w w') (hQ : Q < base) (hS : S < base) : Own k e w' base A n c xs :=
  h.keep fun g hg => hf.block g (h.block g hg).2 (by have := (h.block g hg).1; omega) (by have := (h.block g hg).1; omega)
theorem run_makeFunc (fn : Fn) (first cap : Array Value) (w : World) : (Instr.makeFunc fn first cap).run Tryd.prog w = .ok (.func fn first cap) w := rfl

set_option maxHeartbeats 800000 in
theorem rds_ok {w : World} {B Q S P base n h : Nat} {ys rest : List Int} (hS : Stm w Q S (-1) (frame 4 (cat ys) 0 ++ rest)) (hbox : Blk w P 51 #[.slice none 0 0]) (hBP : B ≤ P) (hPQ : P < Q) (hSb : S < base) (hbs : base ≤ w.heap.size) (hn : ys.length = n) (he : n = 2 * h) (hN : Nums ys) (hF : Fine ys) (h32 : n ≤ 4294967296) :
    Calls Tryd.prog 57 #[.pointer (some ⟨S, 0, none⟩), .func (.func 58) #[] #[.pointer (some ⟨P, 0, none⟩)]] w fun e w' => e = .returned .nilIface ∧ Stm w' Q S (-1) rest ∧ (∃ A l c, Blk w' P 51 #[.slice A l c] ∧ Own .i64 2 w' base A l c ys) ∧ Below B w w' := by
  have hQS := hS.2.1
  obtain ⟨tl, htl⟩ : ∃ tl, tl = rest := ⟨_, rfl⟩
  obtain ⟨T0, hT0⟩ : ∃ T0 : Nat, T0 = 0 := ⟨_, rfl⟩
  have hlist : cat ys ++ rest = cat ys ++ tl := by rw [htl]
  have hlen : (cat ys).length = (cat ys).length + T0 := by rw [hT0]; rfl
  have hx : frame 4 (cat ys) 0 ++ rest = venc (vcls 4) 4 ++ (venc (vcls ((cat ys).length : Int)) ((cat ys).length : Int) ++ (cat ys ++ rest)) := by unfold frame; rw [vk0, vk0]; simp only [List.append_assoc]
  have hcl := cat_len ys
  have hT16 : T0 ≤ 16 := by rw [hT0]; omega
  rw [hx, hlist, hlen] at hS
  obtain ⟨L, hL⟩ : ∃ L : Nat, L = (cat ys).length := ⟨_, rfl⟩
  rw [← hL] at hS hcl
  have H1 := Lib.hid (rfh_ok hS (vcls_le 4) (vcls_le _) (by omega) (top_cls (by omega)) (by omega) (top_cls (by omega)))
  have HL := Lib.hid hL
  have HT0 := Lib.hid hT0
  have HTL := Lib.hid htl
  have HN := Lib.hid hn
  have HH := Lib.hid he
  have HNu := Lib.hid hN
  have HF := Lib.hid hF
  have HBx := Lib.hid hbox
  have hmf := run_makeFunc
  clear hS hbox hn he hN hF hlist hlen hx htl hT0 hL
  go_enter Tryd.func57, Tryd.ntmps57
  go_wp2_with fail
  refine H1.out.mono ?_
  rintro e w1 ⟨rfl, hS1, hf1⟩
  have hB1 := Lib.hid (hf1.below (B := B) (by omega) (by omega) (by omega))
  have hx1 := Lib.hid (hf1.blk HBx.out (by omega) (by omega))
  have hz1 := hf1.size
  have hS1 := Lib.hid hS1
  clear H1 HBx
  go_wp2_with fail
  go_loopw [7] (fun _ wr => ∃ (j q M : Nat) (A : Option Addr) (l c : Nat), j ≤ n ∧ l = j ∧ j = 2 * q ∧ M = (cat (ys.drop j)).length + T0 ∧ Stm wr Q S (M : Int) (cat (ys.drop j) ++ tl) ∧ Blk wr P 51 #[.slice A l c] ∧ Own .i64 2 wr base A l c (ys.take j) ∧ Below B w wr ∧ base ≤ wr.heap.size) (fun _ wr => mlim wr S)
  case atStart => exact ⟨0, 0, L + T0, none, 0, 0, by omega, rfl, rfl, by rw [HL.out]; rfl, hS1.out, hx1.out, Own.nil _ _ _ _, hB1.out, by omega⟩
  case round =>
    obtain ⟨j, q, M, A, l, c, hj, hlj, hjq, hM, hSr, hbx, hown, hbr, hbs2⟩ := hrel
    have HBr := Lib.hid hbr
    have HQ := Lib.hid hjq
    have HLJ := Lib.hid hlj
    have g1 : wr.cell? ⟨S, 1, none⟩ = some (.int .i64 (M : Int)) := hSr.2.2.cell 1
    have hml := Lib.hid (mlim_of hSr)
    by_cases hlt : j < n
    · have hlen := HN.out
      have h2 : j + 1 < ys.length := by have := HH.out; omega
      obtain ⟨x0, x1⟩ := HNu.out.nth (j := j) (by omega)
      obtain ⟨y0, y1⟩ := HNu.out.nth (j := j + 1) (by omega)
      have hFx : ¬ (2 ≤ nth ys j ∧ nth ys j ≤ 5) := by have := HF.out q (by omega); rwa [← hjq] at this
      have hcat := cat_two h2
      have htk := Lib.hid (take_two h2)
      have hdl : (cat (ys.drop j)).length ≤ 8 * n := by have := cat_len (ys.drop j); rw [List.length_drop] at this; omega
      generalize nth ys j = x at *
      generalize nth ys (j + 1) = y at *
      have hl3 : (cat (ys.drop j)).length = 2 ^ vcls x + (2 ^ vcls y + (cat (ys.drop (j + 2))).length) := by rw [hcat, List.length_append, List.length_append, venc_length (vcls_le x), venc_length (vcls_le y)]
      rw [hl3] at hM hdl
      rw [hcat] at hSr
      simp only [List.append_assoc] at hSr
      have px := Nat.two_pow_pos (vcls x)
      have py := Nat.two_pow_pos (vcls y)
      have hM0 : 0 < M := by omega
      have hM2 : M ≤ 34359738384 := by omega
      have H2 := Lib.hid (rv_venc_in hSr (vcls_le x) x0 (top_cls x1) (by omega) (by omega))
      have HM := Lib.hid hM
      have Hbx := Lib.hid hbx
      have HO := Lib.hid hown
      have k2 : (x == 2) = false := by simp; omega
      have k3 : (x == 3) = false := by simp; omega
      have k4 : (x == 4) = false := by simp; omega
      have k5 : (x == 5) = false := by simp; omega
      clear hSr hM hlen hcat hl3 hbx hown hbr hjq hlj hFx px py hdl
      go_wp2_with fail
      refine H2.out.mono ?_
      rintro e w2 ⟨rfl, hS2, hf2⟩
      have H3 := Lib.hid (rv_venc_in hS2 (vcls_le y) y0 (top_cls y1) (by have := HM.out; omega) (by have := Nat.two_pow_pos (vcls x); omega))
      have Hbx2 := Lib.hid (hf2.blk Hbx.out (by omega) (by omega))
      have HO2 := Lib.hid (HO.out.fr hf2 (by omega) (by omega))
      have HB2 := Lib.hid (HBr.out.trans (hf2.below (B := B) (by omega) (by omega) (by have := hf2.size; omega)))
      have hz2 := hf2.size
      clear hS2 H2 Hbx HO g1 HBr
      go_wp2_with fail
      refine H3.out.mono ?_
      rintro e w3 ⟨rfl, hS3, hf3⟩
      have e3 : (M : Int) - (2 ^ vcls x : Nat) - (2 ^ vcls y : Nat) = (((cat (ys.drop (j + 2))).length + T0 : Nat) : Int) := by have := HM.out; omega
      rw [e3] at hS3
      have Hbx3 := Lib.hid (hf3.blk Hbx2.out (by omega) (by omega))
      have HO3 := Lib.hid (HO2.out.fr hf3 (by omega) (by omega))
      have HB3 := Lib.hid (HB2.out.trans (hf3.below (B := B) (by omega) (by omega) (by have := hf3.size; omega)))
      have hz3 := hf3.size
      have HS3 := Lib.hid hS3
      clear hS3 H3 Hbx2 HO2 HB2 e3
      go_wp2_with fail
      refine (rs1 Hbx3.out HO3.out (by omega) (by have := HLJ.out; omega)).mono ?_
      rintro e w4 ⟨rfl, ⟨A4, l4, c4, hbx4, ho4⟩, hf4⟩
      have HS4 := Lib.hid (HS3.out.box Hbx3.out (fun _ e => by cases e) (by omega) (by omega) (fun k hk hne => hf4.block k (by omega) hne hne))
      have HB4 := Lib.hid (HB3.out.trans (hf4.low (B := B) (by omega) (by omega)))
      have Hbx4 := Lib.hid hbx4
      have HO4 := Lib.hid ho4
      have hz4 := hf4.size
      clear HS3 Hbx3 HO3 HB3 hbx4 ho4
      go_wp2
      go_roundw
      case rel => exact ⟨j + 2, q + 1, _, A4, l4, c4, by have := HH.out; have := HQ.out; omega, by have := HO4.out.len; rw [← htk.out, List.length_take] at this; omega, by have := HQ.out; omega, rfl, HS4.out, Hbx4.out, by rw [htk.out]; exact HO4.out, HB4.out, by omega⟩
      case measure => rw [hml.out, mlim_of HS4.out]; have := HM.out; have := Nat.two_pow_pos (vcls x); have := Nat.two_pow_pos (vcls y); omega
    · have hjn : j = n := by omega
      have hd : cat (ys.drop j) = [] := by rw [hjn, ← HN.out, List.drop_length]; rfl
      rw [hd] at hM hSr
      rw [List.nil_append] at hSr
      have hM0 : M = 0 := by rw [hM, HT0.out]; rfl
      rw [hM0] at g1 hSr
      have HS := Lib.hid hSr
      have Hbx := Lib.hid hbx
      have HO := Lib.hid hown
      clear hM hM0 hd hSr hbx hown hbr hjq hlj
      go_wp2_with fail
      refine (ef_ok (by simpa using HS.out)).mono ?_
      rintro e w2 ⟨rfl, hS2, hf2⟩
      have Hbx2 := Lib.hid (hf2.blk Hbx.out (by omega) (by omega))
      have HO2 := Lib.hid (HO.out.fr hf2 (by omega) (by omega))
      have HB2 := Lib.hid (HBr.out.trans (hf2.below (B := B) (by omega) (by omega) (by omega)))
      have HS2 := Lib.hid hS2
      clear hS2
      go_wp2
      go_ret
      refine ⟨rfl, by rw [← HTL.out]; exact HS2.out, ⟨A, l, c, Hbx2.out, ?_⟩, HB2.out⟩
      have := HO2.out
      rwa [hjn, ← HN.out, List.take_length] at this

set_option maxHeartbeats 800000 in
theorem rds_bad {w : World} {B Q S P base n h : Nat} {ys rest : List Int} {r v : Int} (hr : 2 ≤ r ∧ r ≤ 5) (hv0 : 0 ≤ v) (hv1 : v ≤ 4611686018427387903) (hS : Stm w Q S (-1) (frame 4 (cat (ys ++ [r, v])) 0 ++ rest)) (hbox : Blk w P 51 #[.slice none 0 0]) (hBP : B ≤ P) (hPQ : P < Q) (hSb : S < base) (hbs : base ≤ w.heap.size) (hn : ys.length = n) (he : n = 2 * h) (hN : Nums ys) (hF : Fine ys) (h32 : n ≤ 4294967296) :
    Calls Tryd.prog 57 #[.pointer (some ⟨S, 0, none⟩), .func (.func 58) #[] #[.pointer (some ⟨P, 0, none⟩)]] w fun e w' => (∃ g, e = .returned (.iface 97 (.pointer (some ⟨g, 0, none⟩))) ∧ w'.cell? ⟨g, 0, none⟩ = some (.int .i64 265)) ∧ Inp w' Q rest ∧ (∃ A l c, Blk w' P 51 #[.slice A l c]) ∧ Below B w w' := by
  have hQS := hS.2.1
  obtain ⟨tl, htl⟩ : ∃ tl, tl = (venc (vcls r) r ++ (venc (vcls v) v ++ rest)) := ⟨_, rfl⟩
  obtain ⟨T0, hT0⟩ : ∃ T0 : Nat, T0 = 2 ^ vcls r + 2 ^ vcls v := ⟨_, rfl⟩
  have hlist : cat (ys ++ [r, v]) ++ rest = cat ys ++ tl := by rw [htl]; rw [cat_append]; simp [cat]
  have hlen : (cat (ys ++ [r, v])).length = (cat ys).length + T0 := by rw [hT0]; rw [cat_append]; simp only [cat, List.length_append, List.append_nil, venc_length (vcls_le r), venc_length (vcls_le v)]
  have hx : frame 4 (cat (ys ++ [r, v])) 0 ++ rest = venc (vcls 4) 4 ++ (venc (vcls ((cat (ys ++ [r, v])).length : Int)) ((cat (ys ++ [r, v])).length : Int) ++ (cat (ys ++ [r, v]) ++ rest)) := by unfold frame; rw [vk0, vk0]; simp only [List.append_assoc]
  have hcl := cat_len ys
  have hT16 : T0 ≤ 16 := by rw [hT0]; have := cls8 r; have := cls8 v; omega
  rw [hx, hlist, hlen] at hS
  obtain ⟨L, hL⟩ : ∃ L : Nat, L = (cat ys).length := ⟨_, rfl⟩
  rw [← hL] at hS hcl
  have H1 := Lib.hid (rfh_ok hS (vcls_le 4) (vcls_le _) (by omega) (top_cls (by omega)) (by omega) (top_cls (by omega)))
  have HL := Lib.hid hL
  have HT0 := Lib.hid hT0
  have HTL := Lib.hid htl
  have HN := Lib.hid hn
  have HH := Lib.hid he
  have HNu := Lib.hid hN
  have HF := Lib.hid hF
  have HBx := Lib.hid hbox
  have hmf := run_makeFunc
  clear hS hbox hn he hN hF hlist hlen hx htl hT0 hL
  go_enter Tryd.func57, Tryd.ntmps57
  go_wp2_with fail
  refine H1.out.mono ?_
  rintro e w1 ⟨rfl, hS1, hf1⟩
  have hB1 := Lib.hid (hf1.below (B := B) (by omega) (by omega) (by omega))
  have hx1 := Lib.hid (hf1.blk HBx.out (by omega) (by omega))
  have hz1 := hf1.size
  have hS1 := Lib.hid hS1
  clear H1 HBx
  go_wp2_with fail
  go_loopw [7] (fun _ wr => ∃ (j q M : Nat) (A : Option Addr) (l c : Nat), j ≤ n ∧ l = j ∧ j = 2 * q ∧ M = (cat (ys.drop j)).length + T0 ∧ Stm wr Q S (M : Int) (cat (ys.drop j) ++ tl) ∧ Blk wr P 51 #[.slice A l c] ∧ Own .i64 2 wr base A l c (ys.take j) ∧ Below B w wr ∧ base ≤ wr.heap.size) (fun _ wr => mlim wr S)
  case atStart => exact ⟨0, 0, L + T0, none, 0, 0, by omega, rfl, rfl, by rw [HL.out]; rfl, hS1.out, hx1.out, Own.nil _ _ _ _, hB1.out, by omega⟩
  case round =>
    obtain ⟨j, q, M, A, l, c, hj, hlj, hjq, hM, hSr, hbx, hown, hbr, hbs2⟩ := hrel
    have HBr := Lib.hid hbr
    have HQ := Lib.hid hjq
    have HLJ := Lib.hid hlj
    have g1 : wr.cell? ⟨S, 1, none⟩ = some (.int .i64 (M : Int)) := hSr.2.2.cell 1
    have hml := Lib.hid (mlim_of hSr)
    by_cases hlt : j < n
    · have hlen := HN.out
      have h2 : j + 1 < ys.length := by have := HH.out; omega
      obtain ⟨x0, x1⟩ := HNu.out.nth (j := j) (by omega)
      obtain ⟨y0, y1⟩ := HNu.out.nth (j := j + 1) (by omega)
      have hFx : ¬ (2 ≤ nth ys j ∧ nth ys j ≤ 5) := by have := HF.out q (by omega); rwa [← hjq] at this
      have hcat := cat_two h2
      have htk := Lib.hid (take_two h2)
      have hdl : (cat (ys.drop j)).length ≤ 8 * n := by have := cat_len (ys.drop j); rw [List.length_drop] at this; omega
      generalize nth ys j = x at *
      generalize nth ys (j + 1) = y at *
      have hl3 : (cat (ys.drop j)).length = 2 ^ vcls x + (2 ^ vcls y + (cat (ys.drop (j + 2))).length) := by rw [hcat, List.length_append, List.length_append, venc_length (vcls_le x), venc_length (vcls_le y)]
      rw [hl3] at hM hdl
      rw [hcat] at hSr
      simp only [List.append_assoc] at hSr
      have px := Nat.two_pow_pos (vcls x)
      have py := Nat.two_pow_pos (vcls y)
      have hM0 : 0 < M := by omega
      have hM2 : M ≤ 34359738384 := by omega
      have H2 := Lib.hid (rv_venc_in hSr (vcls_le x) x0 (top_cls x1) (by omega) (by omega))
      have HM := Lib.hid hM
      have Hbx := Lib.hid hbx
      have HO := Lib.hid hown
      have k2 : (x == 2) = false := by simp; omega
      have k3 : (x == 3) = false := by simp; omega
      have k4 : (x == 4) = false := by simp; omega
      have k5 : (x == 5) = false := by simp; omega
      clear hSr hM hlen hcat hl3 hbx hown hbr hjq hlj hFx px py hdl
      go_wp2_with fail
      refine H2.out.mono ?_
      rintro e w2 ⟨rfl, hS2, hf2⟩
      have H3 := Lib.hid (rv_venc_in hS2 (vcls_le y) y0 (top_cls y1) (by have := HM.out; omega) (by have := Nat.two_pow_pos (vcls x); omega))
      have Hbx2 := Lib.hid (hf2.blk Hbx.out (by omega) (by omega))
      have HO2 := Lib.hid (HO.out.fr hf2 (by omega) (by omega))
      have HB2 := Lib.hid (HBr.out.trans (hf2.below (B := B) (by omega) (by omega) (by have := hf2.size; omega)))
      have hz2 := hf2.size
      clear hS2 H2 Hbx HO g1 HBr
      go_wp2_with fail
      refine H3.out.mono ?_
      rintro e w3 ⟨rfl, hS3, hf3⟩
      have e3 : (M : Int) - (2 ^ vcls x : Nat) - (2 ^ vcls y : Nat) = (((cat (ys.drop (j + 2))).length + T0 : Nat) : Int) := by have := HM.out; omega
      rw [e3] at hS3
      have Hbx3 := Lib.hid (hf3.blk Hbx2.out (by omega) (by omega))
      have HO3 := Lib.hid (HO2.out.fr hf3 (by omega) (by omega))
      have HB3 := Lib.hid (HB2.out.trans (hf3.below (B := B) (by omega) (by omega) (by have := hf3.size; omega)))
      have hz3 := hf3.size
      have HS3 := Lib.hid hS3
      clear hS3 H3 Hbx2 HO2 HB2 e3
      go_wp2_with fail
      refine (rs1 Hbx3.out HO3.out (by omega) (by have := HLJ.out; omega)).mono ?_
      rintro e w4 ⟨rfl, ⟨A4, l4, c4, hbx4, ho4⟩, hf4⟩
      have HS4 := Lib.hid (HS3.out.box Hbx3.out (fun _ e => by cases e) (by omega) (by omega) (fun k hk hne => hf4.block k (by omega) hne hne))
      have HB4 := Lib.hid (HB3.out.trans (hf4.low (B := B) (by omega) (by omega)))
      have Hbx4 := Lib.hid hbx4
      have HO4 := Lib.hid ho4
      have hz4 := hf4.size
      clear HS3 Hbx3 HO3 HB3 hbx4 ho4
      go_wp2
      go_roundw
      case rel => exact ⟨j + 2, q + 1, _, A4, l4, c4, by have := HH.out; have := HQ.out; omega, by have := HO4.out.len; rw [← htk.out, List.length_take] at this; omega, by have := HQ.out; omega, rfl, HS4.out, Hbx4.out, by rw [htk.out]; exact HO4.out, HB4.out, by omega⟩
      case measure => rw [hml.out, mlim_of HS4.out]; have := HM.out; have := Nat.two_pow_pos (vcls x); have := Nat.two_pow_pos (vcls y); omega
    · have hjn : j = n := by omega
      have hd : cat (ys.drop j) = [] := by rw [hjn, ← HN.out, List.drop_length]; rfl
      rw [hd] at hM hSr
      rw [List.nil_append] at hSr
      rw [HTL.out] at hSr
      rw [HT0.out] at hM
      simp only [List.length_nil, Nat.zero_add] at hM
      have px := Nat.two_pow_pos (vcls r)
      have py := Nat.two_pow_pos (vcls v)
      have cx := cls8 r
      have cy := cls8 v
      have hM0 : 0 < M := by omega
      have hM2 : M ≤ 16 := by omega
      have H2 := Lib.hid (rv_venc_in hSr (vcls_le r) (by omega) (top_cls (by omega)) (by omega) (by omega))
      have HM := Lib.hid hM
      have Hbx := Lib.hid hbx
      clear hSr hM hd hbx hown hbr hjq hlj px py cx cy
      go_wp2_with fail
      refine H2.out.mono ?_
      rintro e w2 ⟨rfl, hS2, hf2⟩
      have H3 := Lib.hid (rv_venc_in hS2 (vcls_le v) hv0 (top_cls hv1) (by have := HM.out; omega) (by have := Nat.two_pow_pos (vcls r); omega))
      have Hbx2 := Lib.hid (hf2.blk Hbx.out (by omega) (by omega))
      have HB2 := Lib.hid (HBr.out.trans (hf2.below (B := B) (by omega) (by omega) (by have := hf2.size; omega)))
      have hz2 := hf2.size
      clear hS2 H2 Hbx g1 HBr
      go_wp2_with fail
      refine H3.out.mono ?_
      rintro e w3 ⟨rfl, hS3, hf3⟩
      have Hbx3 := Lib.hid (hf3.blk Hbx2.out (by omega) (by omega))
      have HB3 := Lib.hid (HB2.out.trans (hf3.below (B := B) (by omega) (by omega) (by have := hf3.size; omega)))
      have hz3 := hf3.size
      have HI3 := Lib.hid hS3.1
      have hQl := hS3.1.lt
      clear hS3 H3 Hbx2 HB2
      obtain ⟨r0, r1⟩ := hr
      have hPl := Hbx3.out.lt
      have hfin : ∀ cs : Array Value, Inp (w3.alloc (.cells cs 98)) Q rest ∧ Blk (w3.alloc (.cells cs 98)) P 51 #[.slice A l c] ∧ Below B w (w3.alloc (.cells cs 98)) := fun cs =>
        ⟨HI3.out.keep fun k hk => Below.heap_alloc _ _ _ (by omega), Hbx3.out.alloc _, HB3.out.alloc (by omega) _⟩
      have HFin := Lib.hid hfin
      clear hfin HI3 Hbx3 HB3
      rcases (show r = 2 ∨ r = 3 ∨ r = 4 ∨ r = 5 by omega) with rfl | rfl | rfl | rfl
      all_goals
        go_wp2
        go_ret
        exact ⟨⟨_, rfl, by simp⟩, (HFin.out _).1, ⟨A, l, c, (HFin.out _).2.1⟩, (HFin.out _).2.2⟩
end Go.Proofs.YtfimelphdmmiaaaDoor
