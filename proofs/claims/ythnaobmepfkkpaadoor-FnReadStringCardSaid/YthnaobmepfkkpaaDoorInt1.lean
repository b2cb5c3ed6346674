/- Walks of the integers with a prefix: the stream's ReadByte without a limit; readPrefixedInt; ParseInteger. -/
import Derived.Test.YthnaobmepfkkpaaDoorRead2
import Derived.Test.YthnaobmepfkkpaaDoorNum2
namespace Go.Proofs.YthnaobmepfkkpaaDoor
open Go Go.RowKit

/-- stream.ReadByte, no limit: a byte is there. -/
theorem srb_cons {w : World} {Q S : Nat} {lim x : Int} {xs : List Int} (h : Stm w Q S lim (x :: xs)) (h0 : lim < 0) :
    Calls Tryd.prog 29 #[.pointer (some ⟨S, 0, none⟩)] w fun e w' => e = .returned (.tuple #[.int .u8 x, .nilIface]) ∧ Stm w' Q S lim xs ∧ Fr Q Q w w' := by
  have g1 : w.cell? ⟨S, 0, none⟩ = some (.pointer (some ⟨Q, 0, none⟩)) := h.2.2.cell 0
  go_enter Tryd.func29, Tryd.ntmps29
  go_wp2_with fail
  refine (rec_no 1 h h0).mono ?_
  rintro e w1 ⟨rfl, rfl⟩
  go_wp2_with fail
  refine (qrb_cons h.1).mono ?_
  rintro e w1 ⟨rfl, hi, hf⟩
  have hS := Lib.hid (h.input hf hi)
  clear h hi
  go_wp2_with fail
  go_ret2
  exact ⟨rfl, hS.out, hf⟩

/-- stream.ReadByte, no limit: nothing is left. -/
theorem srb_nil {w : World} {Q S : Nat} {lim : Int} {a0 : Addr} (h : Stm w Q S lim []) (h0 : lim < 0) (hE : Eof w a0) (hQ : 0 < Q) :
    Calls Tryd.prog 29 #[.pointer (some ⟨S, 0, none⟩)] w fun e w' => e = .returned (.tuple #[.int .u8 0, .iface 113 (.pointer (some a0))]) ∧ Inp w' Q [] ∧ Fr Q Q w w' := by
  have g1 : w.cell? ⟨S, 0, none⟩ = some (.pointer (some ⟨Q, 0, none⟩)) := h.2.2.cell 0
  have hp : Tryd.prog.underlying 113 = some (.pointer 131) := Tryd.underlying113
  obtain ⟨i, hi, hcm⟩ := Option.map_eq_some_iff.1 (show (Tryd.prog.info? 113).map (·.comparable) = some true by kernel_rfl)
  obtain ⟨j, hj, _⟩ := Option.map_eq_some_iff.1 (show (Tryd.prog.info? 131).map (·.size) = some 1 by kernel_rfl)
  have HE := fun W : World => run_eql_iface_ptr_same (P := Tryd.prog) W a0 Tryd.underlying54 hp hi hcm hj
  clear hi hcm hj hp
  have HE := Lib.hid HE
  go_enter Tryd.func29, Tryd.ntmps29
  go_wp2_with fail
  refine (rec_no 1 h h0).mono ?_
  rintro e w1 ⟨rfl, rfl⟩
  go_wp2_with fail
  refine (qrb_nil h.1 hE).mono ?_
  rintro e w1 ⟨rfl, hi, hf⟩
  have hE1 : w1.cell? ⟨0, 0, none⟩ = some (.iface 113 (.pointer (some a0))) := hE.fr hf hQ hQ
  have hS := h.input hf hi
  have g2 : w1.cell? ⟨S, 1, none⟩ = some (.int .i64 lim) := hS.2.2.cell 1
  have hi := Lib.hid hi
  have he := HE.out w1
  clear h hS hE
  go_wp2_with fail
  go_quiet (fail)
  go_wp2
  go_ret2
  exact ⟨rfl, hi.out.keep fun _ _ => rfl, hf.drewN _⟩

/-- readPrefixedIntWithByte: the number lies in the first byte. -/
theorem rpb_small {w : World} {S : Nat} {k : Nat} {x : Int} (hx0 : 0 ≤ x) (hx1 : x ≤ 255) (h1 : 1 ≤ k) (h8 : k ≤ 8) (hl : low x k < most k) :
    Calls Tryd.prog 33 #[.pointer (some ⟨S, 0, none⟩), .int .u8 x, .int .u8 k] w fun e w' => e = .returned (.tuple #[.int .i64 (low x k), .nilIface]) ∧ w = w' := by
  have hm1 := most_u8a h8
  have hm2 := most_u8b h8
  have hand := and_most_u8 hx0 hx1 h8
  obtain ⟨hb0, hb1⟩ := low_bound x h1 h8
  obtain ⟨hc0, hc1⟩ := most_cases h1 h8
  have hw : wrap64 (low x k) = low x k := IntWalk.wrap64_in _ (by omega)
  have hne : (low x k != most k) = true := by rw [bne_iff_ne]; omega
  go_enter Tryd.func33, Tryd.ntmps33
  go_wp2
  go_ret2
  exact ⟨rfl, rfl⟩

set_option maxHeartbeats 400000 in
/-- readPrefixedIntWithByte: further bytes, and an end. -/
theorem rpb_ok {w : World} {Q S : Nat} {k t : Nat} {lim x : Int} {r : List Int} (h : Stm w Q S lim r) (h0 : lim < 0) (hx0 : 0 ≤ x) (hx1 : x ≤ 255) (h1 : 1 ≤ k) (h8 : k ≤ 8) (hl : low x k = most k)
    (ht8 : t ≤ 8) (ht : t < r.length) (hC : Cont r t) (hT : nth r t < 128) (hfit : most k + pat r (t + 1) ≤ 9223372036854775807) :
    Calls Tryd.prog 33 #[.pointer (some ⟨S, 0, none⟩), .int .u8 x, .int .u8 k] w fun e w' => e = .returned (.tuple #[.int .i64 (most k + pat r (t + 1)), .nilIface]) ∧ Stm w' Q S lim (r.drop (t + 1)) ∧ Fr Q Q w w' := by
  have hm1 := most_u8a h8
  have hm2 := most_u8b h8
  have hand := and_most_u8 hx0 hx1 h8
  rw [hl] at hand
  obtain ⟨hc0, hc1⟩ := most_cases h1 h8
  have hw : wrap64 (most k) = most k := IntWalk.wrap64_in _ (by omega)
  have hne : (most k != most k) = false := by simp
  have HC := Lib.hid hC
  have Hy : Hid (Byt r) := by obtain ⟨_, _, _, _, _, _, _, _, hy⟩ := h.1; exact hy
  clear hl hC
  go_enter Tryd.func33, Tryd.ntmps33
  go_wp2_with fail
  rw [hm2]
  clear hm1 hm2 hand hw hne
  go_loopw [6, 7, 9] (fun v ev m wr => ∃ j : Nat, j ≤ t ∧ ev = .nilIface ∧ m = .int .i64 (7 * (j : Int)) ∧ v = .int .i64 (most k + pat r j) ∧ Stm wr Q S lim (r.drop j) ∧ Fr Q Q w wr) (fun _ _ m _ => 7 * t + 7 - (intOf m).toNat)
  case atStart => exact ⟨0, by omega, rfl, rfl, by rw [pat_zero]; go_num, h, Fr.refl _ _ _⟩
  case round =>
    obtain ⟨j, hj, rfl, rfl, rfl, hSr, hFr⟩ := hrel
    have hjr : j < r.length := by omega
    obtain ⟨hc0, hc1⟩ := Hy.out.nth j
    obtain ⟨hd0, hd1⟩ := add_bound (nth r j) (j := j) (by omega)
    obtain ⟨hp0, hp1⟩ := pat_le8 r (j := j) (by omega)
    have hsum : most k + pat r j + nth r j % 128 * 128 ^ j ≤ 9223372036854775807 := by
      have := pat_le r (show j + 1 ≤ t + 1 by omega)
      rw [pat_succ r j] at this
      omega
    have h127 := and127 hc0 hc1
    have hw1 : wrap64 (nth r j % 128) = nth r j % 128 := IntWalk.wrap64_in _ (by omega)
    have hw2 : wrap64 (nth r j % 128 * 2 ^ (7 * j)) = nth r j % 128 * 128 ^ j := by rw [pow_shift]; exact IntWalk.wrap64_in _ (by omega)
    have hps := Lib.hid (pat_succ r j)
    rw [drop_cons hjr] at hSr
    have HSr := Lib.hid hSr
    clear hSr h
    by_cases hjt : j < t
    · have hmore := more_yes hc1 (HC.out j hjt)
      go_wp2_with fail
      refine (srb_cons HSr.out h0).mono ?_
      rintro e w2 ⟨rfl, hS2, hf2⟩
      go_wp2_with fail
      go_roundw
      case rel => exact ⟨j + 1, by omega, rfl, by go_num, by rw [hps.out]; go_num, hS2, hFr.trans hf2⟩
      case measure => simp [intOf]; omega
    · obtain rfl : j = t := by omega
      have hmore := more_no hc0 hT
      go_wp2_with fail
      refine (srb_cons HSr.out h0).mono ?_
      rintro e w2 ⟨rfl, hS2, hf2⟩
      go_wp2_with fail
      go_ret2
      refine ⟨?_, hS2, hFr.trans hf2⟩
      rw [hps.out, ← Int.add_assoc]; rfl

set_option maxHeartbeats 400000 in
/-- readPrefixedIntWithByte: the further bytes break off. -/
theorem rpb_short {w : World} {Q S : Nat} {k : Nat} {lim x : Int} {r : List Int} {a0 : Addr} (h : Stm w Q S lim r) (h0 : lim < 0) (hx0 : 0 ≤ x) (hx1 : x ≤ 255) (h1 : 1 ≤ k) (h8 : k ≤ 8) (hl : low x k = most k)
    (ht9 : r.length ≤ 9) (hC : Cont r r.length) (hE : Eof w a0) (hQ : 0 < Q) :
    Calls Tryd.prog 33 #[.pointer (some ⟨S, 0, none⟩), .int .u8 x, .int .u8 k] w fun e w' => e = .returned (.tuple #[.int .i64 0, .iface 66 (.int .i64 512)]) ∧ Inp w' Q [] ∧ Fr Q Q w w' := by
  have hm1 := most_u8a h8
  have hm2 := most_u8b h8
  have hand := and_most_u8 hx0 hx1 h8
  rw [hl] at hand
  obtain ⟨hc0, hc1⟩ := most_cases h1 h8
  have hw : wrap64 (most k) = most k := IntWalk.wrap64_in _ (by omega)
  have hne : (most k != most k) = false := by simp
  have HC := Lib.hid hC
  have HE := Lib.hid hE
  have Hy : Hid (Byt r) := by obtain ⟨_, _, _, _, _, _, _, _, hy⟩ := h.1; exact hy
  clear hl hC hE
  go_enter Tryd.func33, Tryd.ntmps33
  go_wp2_with fail
  rw [hm2]
  clear hm1 hm2 hand hw hne
  go_loopw [6, 9] (fun v m wr => ∃ (j : Nat) (z : Int), j ≤ r.length ∧ m = .int .i64 (7 * (j : Int)) ∧ v = .int .i64 z ∧ Stm wr Q S lim (r.drop j) ∧ Fr Q Q w wr) (fun _ m _ => 7 * r.length + 7 - (intOf m).toNat)
  case atStart => exact ⟨0, _, by omega, rfl, rfl, h, Fr.refl _ _ _⟩
  case round =>
    obtain ⟨j, z, hj, rfl, rfl, hSr, hFr⟩ := hrel
    by_cases hjr : j < r.length
    · obtain ⟨hc0, hc1⟩ := Hy.out.nth j
      have h127 := and127 hc0 hc1
      have hmore := more_yes hc1 (HC.out j hjr)
      rw [drop_cons hjr] at hSr
      have HSr := Lib.hid hSr
      clear hSr h
      go_wp2_with fail
      refine (srb_cons HSr.out h0).mono ?_
      rintro e w2 ⟨rfl, hS2, hf2⟩
      go_wp2_with fail
      go_roundw
      case rel => exact ⟨j + 1, _, by omega, by go_num, rfl, hS2, hFr.trans hf2⟩
      case measure => simp [intOf]; omega
    · rw [List.drop_eq_nil_of_le (by omega)] at hSr
      have HSr := Lib.hid hSr
      have HE2 := Lib.hid (HE.out.fr hFr hQ hQ)
      clear hSr h
      go_wp2_with fail
      refine (srb_nil HSr.out h0 HE2.out hQ).mono ?_
      rintro e w2 ⟨rfl, hi2, hf2⟩
      go_wp2_with fail
      go_ret2
      exact ⟨rfl, hi2, hFr.trans hf2⟩

/-- The bound on a prefix. -/
theorem pfx (a : Int) (k : Nat) (w : World) (ha : (Lit.int .i64 a).wf = true) (h1 : 1 ≤ k) (h8 : k ≤ 8) :
    Calls Tryd.prog 5 #[.int .i64 a, .int .i64 k] w fun e w' => (∃ p : Nat, 1 ≤ p ∧ p ≤ k ∧ e = .returned (.int .i64 p)) ∧ w = w' := by
  have hb := bounds_i64 ha
  have hz : ((k : Int) == 0) = false := by simp; omega
  have hu := Int.tmod_lt_of_pos a (show (0 : Int) < k by omega)
  have hl := Int.lt_tmod_of_pos a (show (0 : Int) < k by omega)
  have hm0 : 0 ≤ a.tmod k % k := Int.emod_nonneg _ (by omega)
  have hm1 : a.tmod k % k < k := Int.emod_lt_of_pos _ (by omega)
  have hw2 : 1 + a.tmod k % k = ((1 + (a.tmod k % k).toNat : Nat) : Int) := by omega
  have H2 := Lib.hid hw2
  clear hw2
  go_enter Tryd.func5, Tryd.ntmps5
  go_wp2
  go_ret
  refine ⟨⟨1 + (a.tmod k % k).toNat, by omega, by omega, ?_⟩, rfl⟩
  rw [← H2.out]; rfl
end Go.Proofs.YthnaobmepfkkpaaDoor
