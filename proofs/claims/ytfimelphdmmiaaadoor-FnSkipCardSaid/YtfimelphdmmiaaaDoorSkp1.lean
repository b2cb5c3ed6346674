/- Walks of discardFrame, frameType.String, discardUnknownFrame, SkipFrame. -/
import Derived.Test.YtfimelphdmmiaaaDoorFrm5
import Derived.Laws.Concat
namespace Go.Proofs.YtfimelphdmmiaaaDoor
open Go Go.RowKit

/-- discardFrame: the whole of it is there. -/
theorem df_ok {w : World} {Q S m : Nat} {p rest : List Int} (h : Stm w Q S m (p ++ rest)) (hp : p.length = m) (h31 : m ≤ 2147483647) :
    Calls Tryd.prog 71 #[.pointer (some ⟨S, 0, none⟩)] w fun e w' => e = .returned .nilIface ∧ Stm w' Q S (-1) rest ∧ Fr Q S w w' := by
  have g1 : w.cell? ⟨S, 1, none⟩ = some (.int .i64 m) := h.2.2.cell 1
  have HP := Lib.hid hp
  have hf0 := Fr.refl Q Q w
  have HS0 := Lib.hid h
  clear hp h
  go_enter Tryd.func71, Tryd.ntmps71
  go_wp2
  clear g1
  go_loopw [9] (fun i wr => ∃ j : Nat, j ≤ m ∧ i = .int .i64 j ∧ Stm wr Q S m ((p ++ rest).drop j) ∧ Fr Q Q w wr) (fun i _ => m + 1 - (intOf i).toNat)
  case atStart => exact ⟨0, by omega, rfl, HS0.out, hf0⟩
  case round =>
    obtain ⟨j, hj, rfl, hSr, hFr⟩ := hrel
    have g0 : wr.cell? ⟨S, 0, none⟩ = some (.pointer (some ⟨Q, 0, none⟩)) := hSr.2.2.cell 0
    by_cases hlt : j < m
    · have hjr : j < (p ++ rest).length := by simp; have := HP.out; omega
      have hin := hSr.1
      rw [drop_cons hjr] at hin
      have Hin := Lib.hid hin
      have HSr := Lib.hid hSr
      clear hin hSr
      go_wp2_with fail
      refine (qrb_cons Hin.out).mono ?_
      rintro e w2 ⟨rfl, hi2, hf2⟩
      have hS2 := Lib.hid (HSr.out.input hf2 hi2)
      clear g0 HSr hi2 Hin
      go_wp2_with fail
      go_roundw
      case rel => exact ⟨j + 1, by omega, by go_num, hS2.out, hFr.trans hf2⟩
      case measure => simp [intOf]; omega
    · have hd : (p ++ rest).drop j = rest := by rw [show j = p.length by have := HP.out; omega, List.drop_left]
      rw [hd] at hSr
      have s1 : wr.cell? ⟨S, 1, none⟩ = some (.int .i64 m) := hSr.2.2.cell 1
      have f1 := hSr.2.2.frozen 1
      have HSr := Lib.hid hSr
      clear hSr hd
      go_wp2
      go_ret
      exact ⟨rfl, HSr.out.lim_ _, (hFr.wide S).setCell (.inr (.inl rfl)) _⟩

/-- The frame types that have a name. -/
def Named (k : Int) : Prop := k = 0 ∨ k = 1 ∨ k = 3 ∨ k = 4 ∨ k = 5 ∨ k = 7 ∨ k = 13
theorem fts {w : World} {k : Int} (h : Named k) :
    Calls Tryd.prog 70 #[.int .i64 k] w fun e w' => (∃ s : ByteArray, e = .returned (.string s) ∧ s.size ≤ 16) ∧ w = w' := by
  rcases h with rfl | rfl | rfl | rfl | rfl | rfl | rfl
  all_goals
    go_enter Tryd.func70, Tryd.ntmps70
    go_wp2
    go_ret
    exact ⟨⟨_, rfl, by decide⟩, rfl⟩

/-- discardUnknownFrame: a type that has a name is an error. -/
theorem duf_named {w : World} {S : Nat} {k : Int} (h : Named k) :
    Calls Tryd.prog 59 #[.pointer (some ⟨S, 0, none⟩), .int .i64 k] w fun e w' => (∃ g, e = .returned (.iface 97 (.pointer (some ⟨g, 0, none⟩))) ∧ w'.cell? ⟨g, 0, none⟩ = some (.int .i64 261)) ∧ Fr S S w w' := by
  have Hf := Lib.hid (fts (w := w) h)
  rcases h with rfl | rfl | rfl | rfl | rfl | rfl | rfl
  all_goals
    go_enter Tryd.func59, Tryd.ntmps59
    go_wp2_with fail
    refine Hf.out.mono ?_
    rintro e w1 ⟨⟨s, rfl, hs⟩, rfl⟩
    have hsum : (⟨#[117, 110, 101, 120, 112, 101, 99, 116, 101, 100, 32]⟩ : ByteArray).size + s.size ≤ 9223372036854775807 := by
      have : (⟨#[117, 110, 101, 120, 112, 101, 99, 116, 101, 100, 32]⟩ : ByteArray).size = 11 := by decide
      omega
    have hadd := run_string_add_sum (P := Tryd.prog) w _ _ hsum
    have hsum2 : ((⟨#[117, 110, 101, 120, 112, 101, 99, 116, 101, 100, 32]⟩ : ByteArray) ++ s).size + (⟨#[32, 102, 114, 97, 109, 101]⟩ : ByteArray).size ≤ 9223372036854775807 := by
      rw [ByteArray.size_append]
      have : (⟨#[117, 110, 101, 120, 112, 101, 99, 116, 101, 100, 32]⟩ : ByteArray).size = 11 := by decide
      have : (⟨#[32, 102, 114, 97, 109, 101]⟩ : ByteArray).size = 6 := by decide
      omega
    have hadd2 := run_string_add_sum (P := Tryd.prog) w _ _ hsum2
    clear hsum hsum2 Hf
    go_wp2
    go_ret
    exact ⟨⟨_, rfl, by simp⟩, (Fr.refl S S w).alloc _⟩
/-- .. else the frame is passed by. -/
theorem duf_ok {w : World} {Q S m : Nat} {k : Int} {p rest : List Int} (hk : ¬ Named k) (h : Stm w Q S m (p ++ rest)) (hp : p.length = m) (h31 : m ≤ 2147483647) :
    Calls Tryd.prog 59 #[.pointer (some ⟨S, 0, none⟩), .int .i64 k] w fun e w' => e = .returned .nilIface ∧ Stm w' Q S (-1) rest ∧ Fr Q S w w' := by
  have Hf := Lib.hid (df_ok h hp h31)
  unfold Named at hk
  have k0 : (k == 0) = false := by simp; omega
  have k1 : (k == 1) = false := by simp; omega
  have k3 : (k == 3) = false := by simp; omega
  have k4 : (k == 4) = false := by simp; omega
  have k5 : (k == 5) = false := by simp; omega
  have k7 : (k == 7) = false := by simp; omega
  have k13 : (k == 13) = false := by simp; omega
  clear h hp hk
  go_enter Tryd.func59, Tryd.ntmps59
  go_wp2_with fail
  refine Hf.out.mono ?_
  rintro e w1 ⟨rfl, hS, hf⟩
  have HS := Lib.hid hS
  clear hS Hf k0 k1 k3 k4 k5 k7 k13
  go_wp2
  go_ret
  exact ⟨rfl, HS.out, hf⟩

/-- SkipFrame: the frame is there. -/
theorem hsf_ok {w : World} {A : Option Addr} {n c K L m : Nat} {a : Int} {p rest xs : List Int} {a0 : Addr} (hk : ¬ Named a) (hx : xs = venc K a ++ (venc L (m : Int) ++ (p ++ rest))) (hr : Rd .u8 w A xs) (hn : xs.length = n) (hy : Byt xs) (h47 : n ≤ 140737488355328) (hE : Eof w a0)
    (hK : K ≤ 3) (hL : L ≤ 3) (ha0 : 0 ≤ a) (ha1 : a < vtop K) (hb1 : (m : Int) < vtop L) (hp : p.length = m) (h31 : m ≤ 2147483647) :
    Calls Tryd.prog 44 #[.slice A n c] w fun e w' => e = .returned (.tuple #[.int .i64 a, .int .i64 rest.length, .int .i64 0]) ∧ Below w.heap.size w w' := by
  have h0 : 0 < w.heap.size := cell_lt hE
  have HE := Lib.hid hE
  have HP := Lib.hid hp
  have Hr := Lib.hid (reads_any (c := c) hr hn hy h47)
  have HX := Lib.hid hx
  have HK := Lib.hid hk
  clear hE hp hr hn hy hx hk
  go_enter Tryd.func44, Tryd.ntmps44
  go_wp2_with fail
  refine Hr.out.mono ?_
  rintro e w1 ⟨Q, S, rfl, hQ, hS, hb1'⟩
  have hQS := hS.2.1
  rw [HX.out] at hS
  have HB1 := Lib.hid hb1'
  have HS := Lib.hid hS
  clear hS hb1' Hr
  go_wp2_with fail
  refine (rfh_ok HS.out hK hL ha0 ha1 (by omega) hb1).mono ?_
  rintro e w2 ⟨rfl, hS2, hf2⟩
  have HS2 := Lib.hid hS2
  clear hS2 HS
  go_wp2_with fail
  refine (duf_ok HK.out HS2.out HP.out h31).mono ?_
  rintro e w4 ⟨rfl, hS4, hf4⟩
  have HB4 := Lib.hid (HB1.out.trans ((hf2.trans hf4).below hQ (by omega) HB1.out.size))
  obtain ⟨A', c', out, hB, _⟩ := hS4.1
  obtain ⟨l, HL⟩ : ∃ l, Hid (l = rest.length) := ⟨_, rfl⟩
  rw [← HL.out] at hB
  have hq : w4.cell? ⟨Q, 0, none⟩ = some (.slice A' l c') := hB.cell 0
  clear hS4 hB HS2
  go_wp2_with fail
  go_quiet ((go_at_call 49; exact Calls.quiet_of_same (code_nil _)))
  go_wp2
  go_ret3
  exact ⟨by rw [← HL.out]; rfl, below_drewN HB4.out _⟩
/-- .. of a type that has a name: an error. -/
theorem hsf_named {w : World} {A : Option Addr} {n c K L : Nat} {a b : Int} {rest xs : List Int} {a0 : Addr} (hk : Named a) (hx : xs = venc K a ++ (venc L b ++ rest)) (hr : Rd .u8 w A xs) (hn : xs.length = n) (hy : Byt xs) (h47 : n ≤ 140737488355328) (hE : Eof w a0)
    (hK : K ≤ 3) (hL : L ≤ 3) (ha0 : 0 ≤ a) (ha1 : a < vtop K) (hb0 : 0 ≤ b) (hb1 : b < vtop L) :
    Calls Tryd.prog 44 #[.slice A n c] w fun e w' => e = .returned (.tuple #[.int .i64 a, .int .i64 rest.length, .int .i64 261]) ∧ Below w.heap.size w w' := by
  have h0 : 0 < w.heap.size := cell_lt hE
  have HE := Lib.hid hE
  have Hr := Lib.hid (reads_any (c := c) hr hn hy h47)
  have HX := Lib.hid hx
  have HK := Lib.hid hk
  clear hE hr hn hy hx hk
  go_enter Tryd.func44, Tryd.ntmps44
  go_wp2_with fail
  refine Hr.out.mono ?_
  rintro e w1 ⟨Q, S, rfl, hQ, hS, hb1'⟩
  have hQS := hS.2.1
  rw [HX.out] at hS
  have HB1 := Lib.hid hb1'
  have HS := Lib.hid hS
  clear hS hb1' Hr
  go_wp2_with fail
  refine (rfh_ok HS.out hK hL ha0 ha1 hb0 hb1).mono ?_
  rintro e w2 ⟨rfl, hS2, hf2⟩
  have HS2 := Lib.hid hS2
  clear hS2 HS
  go_wp2_with fail
  refine (duf_named HK.out).mono ?_
  rintro e w4 ⟨⟨g, rfl, hg⟩, hf4⟩
  have HB4 := Lib.hid (HB1.out.trans ((hf2.trans (hf4.wideR Q)).below hQ (by omega) HB1.out.size))
  have HE4 := Lib.hid (HE.out.below HB4.out h0)
  have hI4 := HS2.out.1.keep (w' := w4) fun k hk => hf4.block k (by have := HS2.out.1.lt; omega) (by omega) (by omega)
  obtain ⟨A', c', out, hB, _⟩ := hI4
  obtain ⟨l, HL⟩ : ∃ l, Hid (l = rest.length) := ⟨_, rfl⟩
  rw [← HL.out] at hB
  have hq : w4.cell? ⟨Q, 0, none⟩ = some (.slice A' l c') := hB.cell 0
  clear hB HS2
  go_wp2_with fail
  go_quiet ((go_at_call 49; exact Calls.quiet_of_same (code_of (.inr (.inr (.inl ⟨g, rfl, hg⟩))) HE4.out)))
  go_wp2
  go_ret3
  exact ⟨by rw [← HL.out]; rfl, below_drewN HB4.out _⟩

/-- The thin package hands on what the package gives. -/
theorem isf {w : World} {v : Value} {a b c : Value} (h : Calls Tryd.prog 44 #[v] w fun e w' => e = .returned (.tuple #[a, b, c]) ∧ Below w.heap.size w w') :
    Calls Tryd.prog 32 #[v] w fun e w' => e = .returned (.tuple #[a, b, c]) ∧ Below w.heap.size w w' := by
  have H := Lib.hid h
  clear h
  go_enter Tryd.func32, Tryd.ntmps32
  go_wp2_with fail
  refine H.out.mono ?_
  rintro e w1 ⟨rfl, hb⟩
  go_wp2
  go_ret3
  exact ⟨rfl, hb⟩
end Go.Proofs.YtfimelphdmmiaaaDoor
