/- Settings: what the package writes (WriteSettings). -/
import Derived.Test.YtfimelphdmmiaaaDoorSet3
namespace Go.Proofs.YtfimelphdmmiaaaDoor
open Go Go.RowKit

theorem size56 {w : World} {n : Int} {z : Nat} (h0 : 0 ≤ n) (h1 : n ≤ 4611686018427387903) (hz : z = 2 ^ vcls n) :
    Calls Tryd.prog 56 #[.int .u64 n] w fun e w' => e = .returned (.int .i64 z) ∧ w = w' := by
  have HZ := Lib.hid hz
  clear hz
  by_cases c0 : n < 64
  · have he := Lib.hid (show vcls n = 0 by unfold vcls; rw [if_pos c0])
    have d0 : n ≤ 63 := by omega
    go_enter Tryd.func56, Tryd.ntmps56
    go_wp2
    go_ret
    exact ⟨by rw [HZ.out, he.out]; rfl, rfl⟩
  have d0 : ¬ n ≤ 63 := by omega
  by_cases c1 : n < 16384
  · have he := Lib.hid (show vcls n = 1 by unfold vcls; rw [if_neg c0, if_pos c1])
    have d1 : n ≤ 16383 := by omega
    go_enter Tryd.func56, Tryd.ntmps56
    go_wp2
    go_ret
    exact ⟨by rw [HZ.out, he.out]; rfl, rfl⟩
  have d1 : ¬ n ≤ 16383 := by omega
  by_cases c2 : n < 1073741824
  · have he := Lib.hid (show vcls n = 2 by unfold vcls; rw [if_neg c0, if_neg c1, if_pos c2])
    have d2 : n ≤ 1073741823 := by omega
    go_enter Tryd.func56, Tryd.ntmps56
    go_wp2
    go_ret
    exact ⟨by rw [HZ.out, he.out]; rfl, rfl⟩
  have d2 : ¬ n ≤ 1073741823 := by omega
  have he := Lib.hid (show vcls n = 3 by unfold vcls; rw [if_neg c0, if_neg c1, if_neg c2])
  go_enter Tryd.func56, Tryd.ntmps56
  go_wp2
  go_ret
  exact ⟨by rw [HZ.out, he.out]; rfl, rfl⟩

set_option maxHeartbeats 800000 in
theorem ws_any {w : World} {base Q S n c : Nat} {A : Option Addr} {ys : List Int} (h : Wst w base Q S []) (hr : ∀ W, Below base w W → Rd .i64 W A ys) (hn : ys.length = n) (hN : Nums ys) (h32 : n ≤ 4294967296) :
    Calls Tryd.prog 60 #[.pointer (some ⟨S, 0, none⟩), .slice A n c] w fun e w' => e = .returned (.tuple #[]) ∧ Wst w' base Q S (frame 4 (cat ys) 0) ∧ Below base w w' := by
  have H0 := Lib.hid h
  have HR := Lib.hid hr
  have HN := Lib.hid hn
  have HNu := Lib.hid hN
  clear h hr hn hN
  go_enter Tryd.func60, Tryd.ntmps60
  go_wp2
  go_loop [4, 11] (fun s i => ∃ (j T : Nat), j ≤ n ∧ i = .int .i64 j ∧ s = .int .i64 T ∧ T = (cat (ys.take j)).length) (fun _ i => n + 1 - (intOf i).toNat)
  case atStart => exact ⟨0, 0, by omega, rfl, rfl, rfl⟩
  case round =>
    obtain ⟨j, T, hj, rfl, rfl, hT⟩ := hrel
    have hT8 : T ≤ 8 * j := by
      have := cat_len (ys.take j)
      rw [List.length_take] at this
      omega
    have HT := Lib.hid hT
    clear hT
    by_cases hlt : j < n
    · have hlen := HN.out
      obtain ⟨b, off, rfl, hc⟩ := HR.out w (Below.refl base w) (by intro e; subst e; simp at hlen; omega)
      have c1 := hc j (by omega)
      obtain ⟨x0, x1⟩ := HNu.out.nth (j := j) (by omega)
      have X := Lib.hid (cat_next (ys := ys) (j := j) (by omega))
      generalize nth ys j = x at *
      obtain ⟨z, hz⟩ : ∃ z, z = 2 ^ vcls x := ⟨_, rfl⟩
      have hz8 : z ≤ 8 := by rw [hz]; exact cls8 x
      have HZ := Lib.hid hz
      clear hc hlen hz
      go_wp2_with fail
      refine (size56 x0 x1 HZ.out).mono ?_
      rintro e w1 ⟨rfl, rfl⟩
      go_wp2
      go_round
      case rel => exact ⟨j + 1, T + z, by omega, by go_num, by go_num, by rw [X.out, List.length_append, venc_length (vcls_le x), HT.out, HZ.out]⟩
      case measure => simp [intOf]; omega
    · have hjn : j = n := by omega
      have hTL : Hid (T = (cat ys).length) := by have := HT.out; rw [hjn, ← HN.out, List.take_length] at this; exact this
      have hv4 : vcls 4 = 0 := by decide
      go_wp2_with fail
      refine (wv_any (n := 4) H0.out (by simp) (by omega) (by omega)).mono ?_
      rintro e w1 ⟨rfl, hw1, hb1⟩
      have H1 := Lib.hid hw1
      have HB1 := Lib.hid hb1
      clear hw1 hb1
      go_wp2_with fail
      refine (wv_any (n := (T : Int)) H1.out (by rw [List.nil_append]; have := (venc_len1 4).2; omega) (by omega) (by omega)).mono ?_
      rintro e w2 ⟨rfl, hw2, hb2⟩
      obtain ⟨pre, hpre⟩ : ∃ pre, pre = [] ++ venc (vcls 4) 4 ++ venc (vcls (T : Int)) (T : Int) := ⟨_, rfl⟩
      rw [← hpre] at hw2
      have hpl : pre.length ≤ 16 := by
        rw [hpre, List.nil_append, List.length_append]
        have := (venc_len1 4).2
        have := (venc_len1 (T : Int)).2
        omega
      have H2 := Lib.hid hw2
      have HP := Lib.hid hpre
      have HB2 := Lib.hid (HB1.out.trans hb2)
      clear hw2 hb2 hpre hv4
      go_wp2
      go_loopw [28] (fun i wr => ∃ j : Nat, j ≤ n ∧ i = .int .i64 j ∧ Wst wr base Q S (pre ++ cat (ys.take j)) ∧ Below base w wr) (fun i _ => n + 1 - (intOf i).toNat)
      case atStart => exact ⟨0, by omega, rfl, by simpa [cat] using H2.out, HB2.out⟩
      case round =>
        obtain ⟨j, hj, rfl, hwr, hbr⟩ := hrel
        have HW := Lib.hid hwr
        have HBr := Lib.hid hbr
        clear hwr hbr
        by_cases hlt : j < n
        · have hlen := HN.out
          obtain ⟨b, off, rfl, hc⟩ := HR.out wr HBr.out (by intro e; subst e; simp at hlen; omega)
          have c1 := hc j (by omega)
          obtain ⟨x0, x1⟩ := HNu.out.nth (j := j) (by omega)
          have X := Lib.hid (cat_next (ys := ys) (j := j) (by omega))
          generalize nth ys j = x at *
          have hcl := cat_len (ys.take j)
          rw [List.length_take] at hcl
          clear hc hlen
          go_wp2_with fail
          refine (wv_any (n := x) HW.out (by rw [List.length_append]; omega) x0 x1).mono ?_
          rintro e w3 ⟨rfl, hw3, hb3⟩
          have H3 := Lib.hid hw3
          have HB3 := Lib.hid (HBr.out.trans hb3)
          clear hw3 hb3
          go_wp2
          go_roundw
          case rel => exact ⟨j + 1, by omega, by go_num, by rw [X.out, ← List.append_assoc]; exact H3.out, HB3.out⟩
          case measure => simp [intOf]; omega
        · have hjn : j = n := by omega
          go_wp2
          go_end0
          refine ⟨rfl, ?_, HBr.out⟩
          have := HW.out
          rw [hjn, ← HN.out, List.take_length, HP.out, List.nil_append, hTL.out, List.append_assoc] at this
          unfold frame
          rw [vk0, vk0]
          exact this

theorem iws {w : World} {A : Option Addr} {n c : Nat} {ys : List Int} (hr : Rd .i64 w A ys) (hn : ys.length = n) (hN : Nums ys) (h32 : n ≤ 4294967296) :
    Calls Tryd.prog 33 #[.slice A n c] w (Wrote w w.heap.size w.heap.size (frame 4 (cat ys) 0)) := by
  have HR := Lib.hid hr
  have HN := Lib.hid hn
  clear hr hn
  go_enter Tryd.func33, Tryd.ntmps33
  go_wp2_with (go_at_call 45; go_in)
  refine (reads_none w).mono ?_
  rintro e w1 ⟨⟨Q, S, rfl, hW⟩, hb1⟩
  have HW := Lib.hid hW
  have HB := Lib.hid hb1
  clear hW hb1
  go_wp2_with fail
  refine (ws_any HW.out (fun W hW => HR.out.below (HB.out.trans hW) (Nat.le_refl _)) HN.out hN h32).mono ?_
  rintro e w2 ⟨rfl, ⟨_, _, hz, _, i, A, l, c, hQ, hown⟩, hb2⟩
  have q1 : w2.cell? ⟨Q, 1, none⟩ = some (.slice A l c) := hQ.cell 1
  have HB2 := Lib.hid (HB.out.trans hb2)
  have HO := Lib.hid hown
  clear hQ hown hb2 hz hN
  go_wp2
  go_ret
  exact ⟨A, l, c, rfl, HO.out, HB2.out⟩
end Go.Proofs.YtfimelphdmmiaaaDoor
