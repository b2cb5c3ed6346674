/- More walks: a variable-length integer that breaks off; an error's number; a stream over a copy of bytes; ReadVarint. -/
import Derived.Test.YthnaobmepfkkpaaDoorRead
import Derived.Test.YthnaobmepfkkpaaDoorMem
namespace Go.Proofs.YthnaobmepfkkpaaDoor
open Go Go.RowKit

theorem ta_yes92 (v : Value) (w : World) : (Instr.typeAssert (.iface 66 v) 54 66 true).run Tryd.prog w = .ok (.tuple #[v, .bool true]) w := by kernel_rfl
theorem ta_yes94 (v : Value) (w : World) : (Instr.typeAssert (.iface 69 v) 54 69 true).run Tryd.prog w = .ok (.tuple #[v, .bool true]) w := by kernel_rfl
theorem ta_yes97 (v : Value) (w : World) : (Instr.typeAssert (.iface 72 v) 54 72 true).run Tryd.prog w = .ok (.tuple #[v, .bool true]) w := by kernel_rfl
theorem ta_94_92 (v : Value) (w : World) : (Instr.typeAssert (.iface 69 v) 54 66 true).run Tryd.prog w = .ok (.tuple #[.int .i64 0, .bool false]) w := by kernel_rfl
theorem ta_97_92 (v : Value) (w : World) : (Instr.typeAssert (.iface 72 v) 54 66 true).run Tryd.prog w = .ok (.tuple #[.int .i64 0, .bool false]) w := by kernel_rfl
theorem ta_97_94 (v : Value) (w : World) : (Instr.typeAssert (.iface 72 v) 54 69 true).run Tryd.prog w = .ok (.tuple #[.pointer none, .bool false]) w := by kernel_rfl
theorem ta_110_92 (v : Value) (w : World) : (Instr.typeAssert (.iface 113 v) 54 66 true).run Tryd.prog w = .ok (.tuple #[.int .i64 0, .bool false]) w := by kernel_rfl
theorem ta_110_94 (v : Value) (w : World) : (Instr.typeAssert (.iface 113 v) 54 69 true).run Tryd.prog w = .ok (.tuple #[.pointer none, .bool false]) w := by kernel_rfl
theorem ta_110_97 (v : Value) (w : World) : (Instr.typeAssert (.iface 113 v) 54 72 true).run Tryd.prog w = .ok (.tuple #[.pointer none, .bool false]) w := by kernel_rfl

set_option maxRecDepth 100000 in
/-- code: no error. -/
theorem code_nil (w : World) : Calls Tryd.prog 24 #[.nilIface] w fun e w' => e = .returned (.int .i64 0) ∧ w' = w := by
  go_enter Tryd.func24, Tryd.ntmps24
  go_wp2
  go_ret
  exact ⟨rfl, rfl⟩
set_option maxRecDepth 100000 in
/-- code: an error's number. -/
theorem code_of {w : World} {a0 : Addr} {ev : Value} {k : Int} (h : EC w a0 ev k) (hE : Eof w a0) : Calls Tryd.prog 24 #[ev] w fun e w' => e = .returned (.int .i64 k) ∧ w' = w := by
  rcases h with rfl | ⟨rfl, rfl⟩ | ⟨g, rfl, hc⟩ | ⟨g, rfl, hc⟩
  · have t1 := ta_yes92
    go_enter Tryd.func24, Tryd.ntmps24
    go_wp2
    go_ret
    exact ⟨rfl, rfl⟩
  · unfold Eof at hE
    have hp : Tryd.prog.underlying 113 = some (.pointer 131) := Tryd.underlying113
    obtain ⟨i, hi, hcm⟩ := Option.map_eq_some_iff.1 (show (Tryd.prog.info? 113).map (·.comparable) = some true by kernel_rfl)
    obtain ⟨j, hj, _⟩ := Option.map_eq_some_iff.1 (show (Tryd.prog.info? 131).map (·.size) = some 1 by kernel_rfl)
    have he := run_eql_iface_ptr_same (P := Tryd.prog) w a0 Tryd.underlying54 hp hi hcm hj
    have t1 := ta_110_92
    have t2 := ta_110_94
    have t3 := ta_110_97
    clear hi hcm hj hp
    go_enter Tryd.func24, Tryd.ntmps24
    go_wp2
    go_ret
    exact ⟨rfl, rfl⟩
  · have t1 := ta_97_92
    have t2 := ta_97_94
    have t3 := ta_yes97
    go_enter Tryd.func24, Tryd.ntmps24
    go_wp2
    go_ret
    exact ⟨rfl, rfl⟩
  · have t1 := ta_94_92
    have t2 := ta_yes94
    go_enter Tryd.func24, Tryd.ntmps24
    go_wp2
    go_ret
    exact ⟨rfl, rfl⟩

/-- What reads leaves: a stream over a copy of the bytes, in new memory. -/
def ReadsPost (w : World) (xs : List Int) (e : Ending) (w' : World) : Prop :=
  ∃ Q S, e = .returned (.tuple #[.pointer (some ⟨S, 0, none⟩), .pointer (some ⟨Q, 0, none⟩)]) ∧ w.heap.size ≤ Q ∧ Stm w' Q S (-1) xs ∧ Below w.heap.size w w'

theorem reads_any {w : World} {A : Option Addr} {n c : Nat} {xs : List Int} (hr : Rd .u8 w A xs) (hn : xs.length = n) (hy : Byt xs) (h47 : n ≤ 140737488355328) :
    Calls Tryd.prog 22 #[.slice A n c] w (ReadsPost w xs) := by
  have H := Lib.hid hn
  clear hn
  go_enter Tryd.func22, Tryd.ntmps22
  go_wp2_with (at_builtin; refine wpList_app w rfl _ _ elem8 rfl w.heap.size none 0 0 [] rfl (Own.nil _ _ _ _) A n c xs rfl H.out hr (by omega) (by omega) (Nat.le_refl _) ?_; intro A' l c' w' hl hown hg _)
  have hb1 := below_app (Below.refl w.heap.size w) (Own.nil .u8 5 w w.heap.size) hg (Nat.le_refl _) (Nat.le_refl _)
  have Hb1 := Lib.hid hb1
  have Hcap := Lib.hid hown.cap
  have Hlt := Lib.hid fun g e => (hown.block g e).2
  clear hb1
  go_wp2
  go_ret2
  have hlen : xs.length = l := by have := hl.out; have := H.out; omega
  subst hlen
  refine ⟨w'.heap.size, w'.heap.size + 1, rfl, Hb1.out.size, ⟨⟨A', c', .slice none 0 0, ?_, Hcap.out.1, Hcap.out.2, ?_, ?_, hy⟩, by omega, ?_⟩, ?_⟩
  · exact (Blk.new _ _ _).alloc _
  · simp only [List.nil_append] at hown
    exact Own.rd <| (hown.below ((Below.refl w'.heap.size w').alloc (Nat.le_refl _) _) (Nat.le_refl _)).below ((Below.refl (w'.heap.size + 1) _).alloc (by simp) _) (by simp)
  · exact fun ad e => Hlt.out ad.block (by rw [e]; rfl)
  · have := Blk.new (w'.alloc (.cells #[.slice A' xs.length c', .slice none 0 0] 58)) 80 #[.pointer (some ⟨w'.heap.size, 0, none⟩), .int .i64 (-1)]
    simpa using this
  · have hb := Hb1.out
    exact (hb.alloc hb.size _).alloc (by have := hb.size; simp; omega) _
end Go.Proofs.YthnaobmepfkkpaaDoor
