/- ParseInteger, the reference's; ReadInt. -/
import Derived.Test.YthnaobmepfkkpaaDoorInt1
namespace Go.Proofs.YthnaobmepfkkpaaDoor
open Go Go.RowKit

/-- Four results. -/
theorem results_four {fn : Func} {t u v x : Tmp} (h : fn.results = #[.tmp t, .tmp u, .tmp v, .tmp x]) (tmps : Array Value) (P : Program) (w : World) :
    (results fn tmps).run P w = .ok (.tuple #[tmps.getD t undef, tmps.getD u undef, tmps.getD v undef, tmps.getD x undef]) w := by simp [results, h]

theorem pi_nil (w : World) (A : Option Addr) (c : Nat) (k : Nat) :
    Calls Tryd.prog 11 #[.slice A 0 c, .int .i64 k] w fun e w' => e = .returned (.tuple #[.int .u64 0, .int .i64 0, .bool false, .bool true]) ∧ w = w' := by
  go_enter Tryd.func11, Tryd.ntmps11
  go_wp2
  refine bodyPost_ret (results_four rfl _ _ _) rfl ?_
  exact ⟨rfl, rfl⟩
theorem pi_small {w : World} {A : Option Addr} {n c k : Nat} {x : Int} {r : List Int} (hr : Rd .u8 w A (x :: r)) (hn : (x :: r).length = n) (hy : Byt (x :: r)) (h1 : 1 ≤ k) (h8 : k ≤ 8) (hl : low x k < most k) :
    Calls Tryd.prog 11 #[.slice A n c, .int .i64 k] w fun e w' => e = .returned (.tuple #[.int .u64 (low x k), .int .i64 1, .bool true, .bool true]) ∧ w = w' := by
  obtain ⟨b, off, rfl, hc⟩ := hr.head
  obtain ⟨hx0, hx1⟩ := hy.head
  have hn0 : 0 < n := by rw [← hn]; simp
  have hne : ((n : Int) == 0) = false := by simp; omega
  have hm := most_u64 h8
  have hand := and_most_u64 hx0 hx1 h8
  clear hr hn hy
  go_enter Tryd.func11, Tryd.ntmps11
  go_wp2
  refine bodyPost_ret (results_four rfl _ _ _) rfl ?_
  exact ⟨rfl, rfl⟩

set_option maxHeartbeats 400000 in
/-- Further bytes, and an end. -/
theorem pi_ok {w : World} {A : Option Addr} {n c k t : Nat} {x : Int} {r : List Int} (hr : Rd .u8 w A (x :: r)) (hn : (x :: r).length = n) (hy : Byt (x :: r)) (h63 : n ≤ 9223372036854775807) (h1 : 1 ≤ k) (h8 : k ≤ 8) (hl : low x k = most k)
    (ht8 : t ≤ 8) (ht : t < r.length) (hC : Cont r t) (hT : nth r t < 128) :
    Calls Tryd.prog 11 #[.slice A n c, .int .i64 k] w fun e w' => e = .returned (.tuple #[.int .u64 (most k + pat r (t + 1)), .int .i64 ((t : Int) + 2), .bool true, .bool (decide (most k + pat r (t + 1) < 4611686018427387904))]) ∧ w = w' := by
  obtain ⟨b, off, rfl, hc⟩ := hr.head
  obtain ⟨hx0, hx1⟩ := hy.head
  have hn0 : 0 < n := by rw [← hn]; simp
  have hne : ((n : Int) == 0) = false := by simp; omega
  have hm := most_u64 h8
  have hand := and_most_u64 hx0 hx1 h8
  rw [hl] at hand
  obtain ⟨hc0, hc1⟩ := most_cases h1 h8
  have Hy : Hid (Byt r) := hy.tail
  have hrn : r.length + 1 = n := by simpa using hn
  have HC : Hid (∀ j, j < r.length → w.cell? ⟨b, off + (j + 1), none⟩ = some (.int .u8 (nth r j))) := fun j hj => by
    obtain ⟨b', off', hA, h⟩ := hr (by simp)
    obtain ⟨rfl, rfl⟩ : b = b' ∧ off = off' := by simpa using hA
    have := h (j + 1) (by simpa using hj)
    rwa [nth_succ] at this
  have HN := Lib.hid hrn
  have HCt := Lib.hid hC
  clear hr hn hy hrn hl hC
  go_enter Tryd.func11, Tryd.ntmps11
  go_wp2
  clear hm hand
  go_loop [4, 9, 10] (fun v s i => ∃ j : Nat, j ≤ t ∧ i = .int .i64 ((j : Int) + 1) ∧ s = .int .i64 (7 * (j : Int)) ∧ v = .int .u64 (most k + pat r j)) (fun _ _ i => n + 1 - (intOf i).toNat)
  case atStart => exact ⟨0, by omega, rfl, rfl, by rw [pat_zero]; go_num⟩
  case round =>
    obtain ⟨j, hj, rfl, rfl, rfl⟩ := hrel
    have hjr : j < r.length := by omega
    have hjn : (j : Int) + 1 < (n : Int) := by have := HN.out; omega
    obtain ⟨hd0, hd1⟩ := Hy.out.nth j
    obtain ⟨he0, he1⟩ := add_bound (nth r j) (j := j) (by omega)
    obtain ⟨hp0, hp1⟩ := pat_le8 r (j := j) (by omega)
    have h127 := and127 hd0 hd1
    have hw2 : IntKind.u64.wrap (nth r j % 128 * 2 ^ (7 * j)) = nth r j % 128 * 128 ^ j := by rw [pow_shift]; exact IntWalk.u64_in _ (by omega)
    have hps := Lib.hid (pat_succ r j)
    have hcell := HC.out j hjr
    by_cases hjt : j < t
    · have hmore := HCt.out j hjt
      go_wp2
      go_round
      case rel => exact ⟨j + 1, by omega, by go_num, by go_num, by rw [hps.out]; go_num⟩
      case measure => have := HN.out; simp [intOf]; omega
    · obtain rfl : j = t := by omega
      go_wp2
      refine bodyPost_ret (results_four rfl _ _ _) rfl ?_
      refine ⟨?_, rfl⟩
      rw [hps.out, ← Int.add_assoc]
      show Ending.returned (.tuple #[_, .int .i64 ((j : Int) + 1 + 1), _, _]) = _
      rw [show (j : Int) + 1 + 1 = (j : Int) + 2 by omega]
      rfl

set_option maxHeartbeats 400000 in
/-- The further bytes break off. -/
theorem pi_short {w : World} {A : Option Addr} {n c k : Nat} {x : Int} {r : List Int} (hr : Rd .u8 w A (x :: r)) (hn : (x :: r).length = n) (hy : Byt (x :: r)) (h63 : n ≤ 9223372036854775807) (h1 : 1 ≤ k) (h8 : k ≤ 8) (hl : low x k = most k)
    (ht9 : r.length ≤ 9) (hC : Cont r r.length) :
    Calls Tryd.prog 11 #[.slice A n c, .int .i64 k] w fun e w' => e = .returned (.tuple #[.int .u64 0, .int .i64 0, .bool false, .bool true]) ∧ w = w' := by
  obtain ⟨b, off, rfl, hc⟩ := hr.head
  obtain ⟨hx0, hx1⟩ := hy.head
  have hn0 : 0 < n := by rw [← hn]; simp
  have hne : ((n : Int) == 0) = false := by simp; omega
  have hm := most_u64 h8
  have hand := and_most_u64 hx0 hx1 h8
  rw [hl] at hand
  obtain ⟨hc0, hc1⟩ := most_cases h1 h8
  have Hy : Hid (Byt r) := hy.tail
  have hrn : r.length + 1 = n := by simpa using hn
  have HC : Hid (∀ j, j < r.length → w.cell? ⟨b, off + (j + 1), none⟩ = some (.int .u8 (nth r j))) := fun j hj => by
    obtain ⟨b', off', hA, h⟩ := hr (by simp)
    obtain ⟨rfl, rfl⟩ : b = b' ∧ off = off' := by simpa using hA
    have := h (j + 1) (by simpa using hj)
    rwa [nth_succ] at this
  have HN := Lib.hid hrn
  have HCt := Lib.hid hC
  clear hr hn hy hrn hl hC
  go_enter Tryd.func11, Tryd.ntmps11
  go_wp2
  clear hm hand
  go_loop [4, 9, 10] (fun v s i => ∃ j : Nat, j ≤ r.length ∧ i = .int .i64 ((j : Int) + 1) ∧ s = .int .i64 (7 * (j : Int)) ∧ v = .int .u64 (most k + pat r j)) (fun _ _ i => n + 1 - (intOf i).toNat)
  case atStart => exact ⟨0, by omega, rfl, rfl, by rw [pat_zero]; go_num⟩
  case round =>
    obtain ⟨j, hj, rfl, rfl, rfl⟩ := hrel
    by_cases hjr : j < r.length
    · have hjn : (j : Int) + 1 < (n : Int) := by have := HN.out; omega
      obtain ⟨hd0, hd1⟩ := Hy.out.nth j
      obtain ⟨he0, he1⟩ := add_bound (nth r j) (j := j) (by omega)
      obtain ⟨hp0, hp1⟩ := pat_le8 r (j := j) (by omega)
      have h127 := and127 hd0 hd1
      have hw2 : IntKind.u64.wrap (nth r j % 128 * 2 ^ (7 * j)) = nth r j % 128 * 128 ^ j := by rw [pow_shift]; exact IntWalk.u64_in _ (by omega)
      have hps := Lib.hid (pat_succ r j)
      have hcell := HC.out j hjr
      have hmore := HCt.out j hjr
      go_wp2
      go_round
      case rel => exact ⟨j + 1, by omega, by go_num, by go_num, by rw [hps.out]; go_num⟩
      case measure => have := HN.out; simp [intOf]; omega
    · have hjn : ¬ (j : Int) + 1 < (n : Int) := by have := HN.out; omega
      go_wp2
      refine bodyPost_ret (results_four rfl _ _ _) rfl ?_
      exact ⟨rfl, rfl⟩

set_option maxHeartbeats 400000 in
/-- More than nine further bytes. -/
theorem pi_long {w : World} {A : Option Addr} {n c k : Nat} {x : Int} {r : List Int} (hr : Rd .u8 w A (x :: r)) (hn : (x :: r).length = n) (hy : Byt (x :: r)) (h63 : n ≤ 9223372036854775807) (h1 : 1 ≤ k) (h8 : k ≤ 8) (hl : low x k = most k)
    (ht9 : 9 < r.length) (hC : Cont r 9) :
    Calls Tryd.prog 11 #[.slice A n c, .int .i64 k] w fun e w' => e = .returned (.tuple #[.int .u64 0, .int .i64 0, .bool false, .bool false]) ∧ w = w' := by
  obtain ⟨b, off, rfl, hc⟩ := hr.head
  obtain ⟨hx0, hx1⟩ := hy.head
  have hn0 : 0 < n := by rw [← hn]; simp
  have hne : ((n : Int) == 0) = false := by simp; omega
  have hm := most_u64 h8
  have hand := and_most_u64 hx0 hx1 h8
  rw [hl] at hand
  obtain ⟨hc0, hc1⟩ := most_cases h1 h8
  have Hy : Hid (Byt r) := hy.tail
  have hrn : r.length + 1 = n := by simpa using hn
  have HC : Hid (∀ j, j < r.length → w.cell? ⟨b, off + (j + 1), none⟩ = some (.int .u8 (nth r j))) := fun j hj => by
    obtain ⟨b', off', hA, h⟩ := hr (by simp)
    obtain ⟨rfl, rfl⟩ : b = b' ∧ off = off' := by simpa using hA
    have := h (j + 1) (by simpa using hj)
    rwa [nth_succ] at this
  have HN := Lib.hid hrn
  have HCt := Lib.hid hC
  clear hr hn hy hrn hl hC
  go_enter Tryd.func11, Tryd.ntmps11
  go_wp2
  clear hm hand
  go_loop [4, 9, 10] (fun v s i => ∃ j : Nat, j ≤ 9 ∧ i = .int .i64 ((j : Int) + 1) ∧ s = .int .i64 (7 * (j : Int)) ∧ v = .int .u64 (most k + pat r j)) (fun _ _ i => n + 1 - (intOf i).toNat)
  case atStart => exact ⟨0, by omega, rfl, rfl, by rw [pat_zero]; go_num⟩
  case round =>
    obtain ⟨j, hj, rfl, rfl, rfl⟩ := hrel
    by_cases hj9 : j < 9
    · have hjr : j < r.length := by omega
      have hjn : (j : Int) + 1 < (n : Int) := by have := HN.out; omega
      obtain ⟨hd0, hd1⟩ := Hy.out.nth j
      obtain ⟨he0, he1⟩ := add_bound (nth r j) (j := j) (by omega)
      obtain ⟨hp0, hp1⟩ := pat_le8 r (j := j) (by omega)
      have h127 := and127 hd0 hd1
      have hw2 : IntKind.u64.wrap (nth r j % 128 * 2 ^ (7 * j)) = nth r j % 128 * 128 ^ j := by rw [pow_shift]; exact IntWalk.u64_in _ (by omega)
      have hps := Lib.hid (pat_succ r j)
      have hcell := HC.out j hjr
      have hmore := HCt.out j hj9
      go_wp2
      go_round
      case rel => exact ⟨j + 1, by omega, by go_num, by go_num, by rw [hps.out]; go_num⟩
      case measure => have := HN.out; simp [intOf]; omega
    · have hjn : (j : Int) + 1 < (n : Int) := by have := HN.out; omega
      have h9 : (9 : Int) < (j : Int) + 1 := by omega
      go_wp2
      refine bodyPost_ret (results_four rfl _ _ _) rfl ?_
      exact ⟨rfl, rfl⟩

end Go.Proofs.YthnaobmepfkkpaaDoor
