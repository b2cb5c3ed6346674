/- Walks of io.ReadAtLeast, io.ReadFull, readFrameData, endFrame. -/
import Derived.Test.YthnaobmepfkkpaaDoorFrm1
import Derived.Deep.RegionWith
import Derived.Stop.Asserts
namespace Go.Proofs.YthnaobmepfkkpaaDoor
open Go Go.RowKit

theorem nil_ahead (n : Nat) (a : Addr) (w : World) : (nilAhead (n + 2) 49 (.pointer (some a)) "Read").run Tryd.prog w = .ok (some false) w := by kernel_rfl
theorem method_read (n : Nat) (a : Addr) (w : World) : (method (n + 2) 49 (.pointer (some a)) "Read").run Tryd.prog w = .ok (63, .pointer (some a)) w := by kernel_rfl

set_option maxRecDepth 100000 in
set_option maxHeartbeats 400000 in
theorem ral_ok {w : World} {Q S D n : Nat} {lim : Int} {xs : List Int} {cur : Array Value} {a0 : Addr} (h : Stm w Q S lim xs) (hE : Eof w a0) (hg : 0 < Q) (hSD : S < D) (hD : Blk w D 5 cur) (hcur : cur.size = n) (hx : n ≤ xs.length) (hn : 0 < n) (h47 : n ≤ 140737488355328)
    (hlim : (n : Int) ≤ lim) (h63 : lim ≤ 9223372036854775807) :
    Calls Tryd.prog 36 #[.iface 49 (.pointer (some ⟨S, 0, none⟩)), .slice (some ⟨D, 0, none⟩) n n, .int .i64 n] w fun e w' => e = .returned (.tuple #[.int .i64 n, .nilIface]) ∧ Stm w' Q S (lim - n) (xs.drop n) ∧ Blk w' D 5 ((xs.take n).map (Value.int .u8)).toArray ∧ FrB D Q S w w' := by
  have Hr := Lib.hid fun W (hW : W = w.drew) => (show Calls Tryd.prog 63 #[.pointer (some ⟨S, 0, none⟩), .slice (some ⟨D, 0, none⟩) n n] W _ from hW ▸ srd_some (c := n) (m := n) (w := w.drew) h.drew hE hg hSD hD hcur (by intro e; subst e; simp at hx; omega) (Nat.min_eq_right hx).symm hn h47 hlim h63)
  clear h hE hD
  have m1 := nil_ahead
  have m2 := method_read
  go_enter Tryd.func36, Tryd.ntmps36
  go_wp2
  refine wp_loop_rounds 2 ?_
  rw [rounds_succ]
  go_wp2_with fail
  go_region_with (go_at_call 63; refine (Hr.out _ rfl).mono ?_; rintro e w1 ⟨rfl, hS1, hD1, hf1⟩)
  have HS1 := Lib.hid hS1
  have HD1 := Lib.hid hD1
  clear hS1 hD1 m1 m2 Hr
  go_wp2
  rw [rounds_succ]
  go_wp2
  go_ret2
  refine ⟨rfl, HS1.out, ?_, ⟨hf1.os, hf1.tape, hf1.output, hf1.size, hf1.block⟩⟩
  have := HD1.out
  rw [List.drop_eq_nil_of_le (by simp; omega), List.append_nil] at this
  exact this

theorem ral_zero {w : World} {S c : Nat} {B : Option Addr} :
    Calls Tryd.prog 36 #[.iface 49 (.pointer (some ⟨S, 0, none⟩)), .slice B 0 c, .int .i64 0] w fun e w' => e = .returned (.tuple #[.int .i64 0, .nilIface]) ∧ w = w' := by
  go_enter Tryd.func36, Tryd.ntmps36
  go_wp2
  refine wp_loop_rounds 1 ?_
  rw [rounds_succ]
  go_wp2
  go_ret2
  exact ⟨rfl, rfl⟩

set_option maxRecDepth 100000 in
set_option maxHeartbeats 400000 in
/-- Nothing is there. -/
theorem ral_none {w : World} {Q S n c : Nat} {lim : Int} {B : Option Addr} {a0 : Addr} (h : Stm w Q S lim []) (hE : Eof w a0) (hg : 0 < Q) (hn : 0 < n) (hnc : n ≤ c) (h47 : n ≤ 140737488355328)
    (hlim : 0 < lim) (h63 : lim ≤ 9223372036854775807) :
    Calls Tryd.prog 36 #[.iface 49 (.pointer (some ⟨S, 0, none⟩)), .slice B n c, .int .i64 n] w fun e w' => e = .returned (.tuple #[.int .i64 0, .iface 66 (.int .i64 262)]) ∧ Stm w' Q S lim [] ∧ Fr Q S w w' := by
  have Hr := Lib.hid fun W (hW : W = w.drew) => (show Calls Tryd.prog 63 #[.pointer (some ⟨S, 0, none⟩), .slice B n c] W _ from hW ▸ srd_none (B := B) (c := c) (w := w.drew) h.drew hE hg hn hlim h63)
  have m1 := nil_ahead
  have m2 := method_read
  have hc0 : c ≠ 0 := by omega
  clear h hE
  go_enter Tryd.func36, Tryd.ntmps36
  go_wp2
  refine wp_loop_rounds 2 ?_
  rw [rounds_succ]
  go_wp2_with fail
  go_region_with (go_at_call 63; refine (Hr.out _ rfl).mono ?_; rintro e w1 ⟨rfl, hS1, hf1⟩)
  have HS1 := Lib.hid hS1
  clear hS1 m1 m2 Hr
  go_wp2
  rw [rounds_succ]
  go_wp2
  go_ret2
  exact ⟨rfl, HS1.out, ⟨hf1.os, hf1.tape, hf1.output, hf1.size, hf1.block⟩⟩

set_option maxRecDepth 100000 in
set_option maxHeartbeats 800000 in
/-- Some bytes are there, but not all. -/
theorem ral_cut {w : World} {Q S D n : Nat} {lim : Int} {xs : List Int} {cur : Array Value} {a0 : Addr} (h : Stm w Q S lim xs) (hE : Eof w a0) (hg : 0 < Q) (hSD : S < D) (hD : Blk w D 5 cur) (hcur : cur.size = n) (hx : xs ≠ []) (hxn : xs.length < n) (h47 : n ≤ 140737488355328)
    (hlim : (n : Int) ≤ lim) (h63 : lim ≤ 9223372036854775807) :
    Calls Tryd.prog 36 #[.iface 49 (.pointer (some ⟨S, 0, none⟩)), .slice (some ⟨D, 0, none⟩) n n, .int .i64 n] w fun e w' => (∃ m : Nat, e = .returned (.tuple #[.int .i64 m, .iface 66 (.int .i64 262)])) ∧ Inp w' Q [] ∧ FrB D Q S w w' := by
  have hQS := h.2.1
  have hl0 : 0 < xs.length := List.length_pos_iff.2 hx
  obtain ⟨m, Hm⟩ : ∃ m, Hid (m = xs.length) := ⟨_, rfl⟩
  have Hr := Lib.hid fun W (hW : W = w.drew) => (show Calls Tryd.prog 63 #[.pointer (some ⟨S, 0, none⟩), .slice (some ⟨D, 0, none⟩) n n] W _ from hW ▸ srd_some (c := n) (m := m) (w := w.drew) h.drew hE hg hSD hD hcur hx (by rw [Hm.out]; exact (Nat.min_eq_left (by omega)).symm) (by omega) h47 (by rw [Hm.out]; omega) h63)
  have hm0 : 0 < m := by rw [Hm.out]; exact hl0
  have hmn : m < n := by rw [Hm.out]; exact hxn
  have HE := Lib.hid hE
  have hdrop : xs.drop m = [] := by rw [Hm.out]; exact List.drop_length
  rw [hdrop] at Hr
  have m1 := nil_ahead
  have m2 := method_read
  have hnm : n ≠ m := by omega
  clear h hE hD hx hxn hl0 hdrop hcur
  go_enter Tryd.func36, Tryd.ntmps36
  go_wp2
  refine wp_loop_rounds 3 ?_
  rw [rounds_succ]
  go_wp2_with fail
  go_region_with (go_at_call 63; refine (Hr.out _ rfl).mono ?_; rintro e w1 ⟨rfl, hS1, hD1, hf1⟩)
  have hE1 := Lib.hid ((show Eof w.drew a0 from HE.out).frb hf1 (by omega) hg (by omega))
  have Hr2 := Lib.hid fun W (hW : W = w1.drew) => (show Calls Tryd.prog 63 #[.pointer (some ⟨S, 0, none⟩), .slice (some ⟨D, m, none⟩) (n - m) (n - m)] W _ from hW ▸ srd_none (B := some ⟨D, m, none⟩) (c := n - m) (w := w1.drew) hS1.drew hE1.out hg (by omega) (by omega) (by omega))
  have HDlt := Lib.hid hD1.lt
  clear hS1 Hr hD1
  go_wp2
  rw [rounds_succ]
  go_wp2_with fail
  go_region_with (go_at_call 63; refine (Hr2.out _ rfl).mono ?_; rintro e w2 ⟨rfl, hS2, hf2⟩)
  all_goals
    have hE2 : w2.cell? ⟨0, 0, none⟩ = some (.iface 113 (.pointer (some a0))) := (show Eof w1.drew a0 from hE1.out).fr hf2 hg (by omega)
    have hq := run_eql_iface_types (P := Tryd.prog) 66 113 (.int .i64 262) (.pointer (some a0)) Tryd.underlying54 (by decide) w2
    have HI := Lib.hid hS2.1
    clear hS2 Hr2 m1 m2 hE1
    go_wp2
    rw [rounds_succ]
    go_wp2
    go_ret2
    refine ⟨⟨m, rfl⟩, HI.out, ?_⟩
    have hf1' : FrB D Q S w w1 := ⟨hf1.os, hf1.tape, hf1.output, hf1.size, hf1.block⟩
    refine ⟨hf2.os.trans hf1'.os, hf2.tape.trans hf1'.tape, hf2.output.trans hf1'.output, Nat.le_trans hf1'.size hf2.size, fun k hk h1 h2 => ?_⟩
    exact (hf2.block k (Nat.lt_trans hk (show D < w1.heap.size from HDlt.out)) h1 h2).trans (hf1'.block k hk h1 h2)
end Go.Proofs.YthnaobmepfkkpaaDoor
