/- More walks: a variable-length integer that breaks off; an error's number; a stream over a copy of bytes; ReadVarint. -/
import Derived.Test.YtfimelphdmmiaaaDoorRead
import Derived.Test.YtfimelphdmmiaaaDoorMem
namespace Go.Proofs.YtfimelphdmmiaaaDoor
open Go Go.RowKit

/-- readVarint without a limit. -/
theorem rv_free {w : World} {Q S : Nat} {lim x : Int} {r : List Int} (h : Stm w Q S lim (x :: r)) (hl : vlen x ≤ r.length + 1) (h0 : lim < 0) :
    Calls Tryd.prog 48 #[.pointer (some ⟨S, 0, none⟩)] w fun e w' => e = .returned (.tuple #[.int .i64 (vat x r (vlen x - 1)), .nilIface]) ∧ Stm w' Q S lim (r.drop (vlen x - 1)) ∧ Fr Q S w w' :=
  rv_ok h hl fun w1 h1 => (rec_no (vlen x) h1 h0).mono fun _ _ ⟨he, hw⟩ => ⟨he, hw ▸ h1, hw ▸ Fr.refl S S w1⟩
/-- readVarint within the limit. -/
theorem rv_in {w : World} {Q S : Nat} {lim x : Int} {r : List Int} (h : Stm w Q S lim (x :: r)) (hl : vlen x ≤ r.length + 1) (h0 : (vlen x : Int) ≤ lim) (h63 : lim ≤ 9223372036854775807) :
    Calls Tryd.prog 48 #[.pointer (some ⟨S, 0, none⟩)] w fun e w' => e = .returned (.tuple #[.int .i64 (vat x r (vlen x - 1)), .nilIface]) ∧ Stm w' Q S (lim - vlen x) (r.drop (vlen x - 1)) ∧ Fr Q S w w' :=
  rv_ok h hl fun _ h1 => rec_in (vlen x) h1 (by omega) h0 h63

/-- readVarint where nothing is left: io.EOF. -/
theorem rv_nil {w : World} {Q S : Nat} {lim : Int} {a0 : Addr} (h : Stm w Q S lim []) (hE : Eof w a0) :
    Calls Tryd.prog 48 #[.pointer (some ⟨S, 0, none⟩)] w fun e w' => e = .returned (.tuple #[.int .i64 0, .iface 110 (.pointer (some a0))]) ∧ Inp w' Q [] ∧ Fr Q S w w' := by
  have g1 : w.cell? ⟨S, 0, none⟩ = some (.pointer (some ⟨Q, 0, none⟩)) := h.2.2.cell 0
  go_enter Tryd.func48, Tryd.ntmps48
  go_wp2_with fail
  refine (qrb_nil h.1 hE).mono ?_
  rintro e w1 ⟨rfl, hi, hf⟩
  go_wp2_with fail
  go_ret2
  exact ⟨rfl, hi, hf.wide S⟩

set_option maxHeartbeats 400000 in
/-- readVarint where the integer breaks off: an error. -/
theorem rv_short {w : World} {Q S : Nat} {lim x : Int} {r : List Int} {a0 : Addr} (h : Stm w Q S lim (x :: r)) (hl : r.length + 1 < vlen x) (hE : Eof w a0) (hQ : 0 < Q) :
    Calls Tryd.prog 48 #[.pointer (some ⟨S, 0, none⟩)] w fun e w' => e = .returned (.tuple #[.int .i64 0, .iface 92 (.int .i64 262)]) ∧ Inp w' Q [] ∧ Fr Q S w w' := by
  have g1 : w.cell? ⟨S, 0, none⟩ = some (.pointer (some ⟨Q, 0, none⟩)) := h.2.2.cell 0
  have hx := h.1
  obtain ⟨_, _, _, _, _, _, _, _, hy⟩ := hx
  obtain ⟨hx0, hx1⟩ := hy.head
  have Hr : Hid (Byt r) := hy.tail
  clear hy
  have hn := vlen_pow x hx0 hx1
  obtain ⟨hv1, hv8⟩ := vlen_pos x
  have HE := Lib.hid hE
  clear hE
  go_enter Tryd.func48, Tryd.ntmps48
  go_wp2_with fail
  refine (qrb_cons h.1).mono ?_
  rintro e w1 ⟨rfl, hi, hf⟩
  go_wp2_with fail
  have hS := h.input hf hi
  rw [hn]
  clear g1 h hi hn
  go_loopw [2, 6] (fun v i wr => ∃ j : Nat, j ≤ r.length ∧ i = .int .i64 ((j : Int) + 1) ∧ v = .int .i64 (vat x r j) ∧ Stm wr Q S lim (r.drop j) ∧ Fr Q Q w wr) (fun _ i _ => vlen x + 1 - (intOf i).toNat)
  case atStart => exact ⟨0, by omega, rfl, rfl, hS, hf⟩
  case round =>
    obtain ⟨j, hj, rfl, rfl, hSr, hFr⟩ := hrel
    have g1 : wr.cell? ⟨S, 0, none⟩ = some (.pointer (some ⟨Q, 0, none⟩)) := hSr.2.2.cell 0
    have hlt : j + 1 < vlen x := by omega
    by_cases hjr : j < r.length
    · obtain ⟨hb0, hb1⟩ := vat_small x Hr.out (j := j) (by omega) (by omega)
      obtain ⟨hc0, hc1⟩ := Hr.out.nth j
      have hor := or_byte (vat x r j) (nth r j) hb0 hb1 hc0 hc1
      have hsh : wrap64 (vat x r j * 256) = vat x r j * 256 := IntWalk.wrap64_in _ (by omega)
      have hin := hSr.1
      rw [drop_cons hjr] at hin
      have Hin := Lib.hid hin
      clear hin
      go_wp2_with fail
      refine (qrb_cons Hin.out).mono ?_
      rintro e w2 ⟨rfl, hi2, hf2⟩
      have hS2 := hSr.input hf2 hi2
      clear g1 hSr hi2
      go_wp2_with fail
      have hvs := vat_succ x hjr
      go_roundw
      case rel => exact ⟨j + 1, by omega, by go_num, by rw [hvs], hS2, hFr.trans hf2⟩
      case measure => simp [intOf]; omega
    · have hin := hSr.1
      rw [List.drop_eq_nil_of_le (by omega)] at hin
      have Hin := Lib.hid hin
      clear hin hSr
      have hE := HE.out.fr hFr hQ hQ
      have HE2 := Lib.hid hE
      clear hE
      go_wp2_with fail
      refine (qrb_nil Hin.out HE2.out).mono ?_
      rintro e w2 ⟨rfl, hi2, hf2⟩
      go_wp2_with fail
      go_ret2
      exact ⟨rfl, hi2, (hFr.trans hf2).wide S⟩

theorem ta_yes92 (v : Value) (w : World) : (Instr.typeAssert (.iface 92 v) 66 92 true).run Tryd.prog w = .ok (.tuple #[v, .bool true]) w := by kernel_rfl
theorem ta_yes94 (v : Value) (w : World) : (Instr.typeAssert (.iface 94 v) 66 94 true).run Tryd.prog w = .ok (.tuple #[v, .bool true]) w := by kernel_rfl
theorem ta_yes97 (v : Value) (w : World) : (Instr.typeAssert (.iface 97 v) 66 97 true).run Tryd.prog w = .ok (.tuple #[v, .bool true]) w := by kernel_rfl
theorem ta_94_92 (v : Value) (w : World) : (Instr.typeAssert (.iface 94 v) 66 92 true).run Tryd.prog w = .ok (.tuple #[.int .i64 0, .bool false]) w := by kernel_rfl
theorem ta_97_92 (v : Value) (w : World) : (Instr.typeAssert (.iface 97 v) 66 92 true).run Tryd.prog w = .ok (.tuple #[.int .i64 0, .bool false]) w := by kernel_rfl
theorem ta_97_94 (v : Value) (w : World) : (Instr.typeAssert (.iface 97 v) 66 94 true).run Tryd.prog w = .ok (.tuple #[.pointer none, .bool false]) w := by kernel_rfl
theorem ta_110_92 (v : Value) (w : World) : (Instr.typeAssert (.iface 110 v) 66 92 true).run Tryd.prog w = .ok (.tuple #[.int .i64 0, .bool false]) w := by kernel_rfl
theorem ta_110_94 (v : Value) (w : World) : (Instr.typeAssert (.iface 110 v) 66 94 true).run Tryd.prog w = .ok (.tuple #[.pointer none, .bool false]) w := by kernel_rfl
theorem ta_110_97 (v : Value) (w : World) : (Instr.typeAssert (.iface 110 v) 66 97 true).run Tryd.prog w = .ok (.tuple #[.pointer none, .bool false]) w := by kernel_rfl

set_option maxRecDepth 100000 in
/-- code: no error. -/
theorem code_nil (w : World) : Calls Tryd.prog 49 #[.nilIface] w fun e w' => e = .returned (.int .i64 0) ∧ w' = w := by
  go_enter Tryd.func49, Tryd.ntmps49
  go_wp2
  go_ret
  exact ⟨rfl, rfl⟩
set_option maxRecDepth 100000 in
/-- code: an error's number. -/
theorem code_of {w : World} {a0 : Addr} {ev : Value} {k : Int} (h : EC w a0 ev k) (hE : Eof w a0) : Calls Tryd.prog 49 #[ev] w fun e w' => e = .returned (.int .i64 k) ∧ w' = w := by
  rcases h with rfl | ⟨rfl, rfl⟩ | ⟨g, rfl, hc⟩ | ⟨g, rfl, hc⟩
  · have t1 := ta_yes92
    go_enter Tryd.func49, Tryd.ntmps49
    go_wp2
    go_ret
    exact ⟨rfl, rfl⟩
  · unfold Eof at hE
    have hp : Tryd.prog.underlying 110 = some (.pointer 127) := Tryd.underlying110
    obtain ⟨i, hi, hcm⟩ := Option.map_eq_some_iff.1 (show (Tryd.prog.info? 110).map (·.comparable) = some true by kernel_rfl)
    obtain ⟨j, hj, _⟩ := Option.map_eq_some_iff.1 (show (Tryd.prog.info? 127).map (·.size) = some 1 by kernel_rfl)
    have he := run_eql_iface_ptr_same (P := Tryd.prog) w a0 Tryd.underlying66 hp hi hcm hj
    have t1 := ta_110_92
    have t2 := ta_110_94
    have t3 := ta_110_97
    clear hi hcm hj hp
    go_enter Tryd.func49, Tryd.ntmps49
    go_wp2
    go_ret
    exact ⟨rfl, rfl⟩
  · have t1 := ta_97_92
    have t2 := ta_97_94
    have t3 := ta_yes97
    go_enter Tryd.func49, Tryd.ntmps49
    go_wp2
    go_ret
    exact ⟨rfl, rfl⟩
  · have t1 := ta_94_92
    have t2 := ta_yes94
    go_enter Tryd.func49, Tryd.ntmps49
    go_wp2
    go_ret
    exact ⟨rfl, rfl⟩

/-- What reads leaves: a stream over a copy of the bytes, in new memory. -/
def ReadsPost (w : World) (xs : List Int) (e : Ending) (w' : World) : Prop :=
  ∃ Q S, e = .returned (.tuple #[.pointer (some ⟨S, 0, none⟩), .pointer (some ⟨Q, 0, none⟩)]) ∧ w.heap.size ≤ Q ∧ Stm w' Q S (-1) xs ∧ Below w.heap.size w w'

theorem reads_any {w : World} {A : Option Addr} {n c : Nat} {xs : List Int} (hr : Rd .u8 w A xs) (hn : xs.length = n) (hy : Byt xs) (h47 : n ≤ 140737488355328) :
    Calls Tryd.prog 47 #[.slice A n c] w (ReadsPost w xs) := by
  have H := Lib.hid hn
  clear hn
  go_enter Tryd.func47, Tryd.ntmps47
  go_wp2_with (at_builtin; refine wpList_app w rfl _ _ elem8 rfl w.heap.size none 0 0 [] rfl (Own.nil _ _ _ _) A n c xs rfl H.out hr (by omega) (by omega) (Nat.le_refl _) ?_; intro A' l c' w' hl hown hg _)
  have hb1 := below_app (Below.refl w.heap.size w) (Own.nil .u8 5 w w.heap.size) hg (Nat.le_refl _) (Nat.le_refl _)
  have Hb1 := Lib.hid hb1
  have Hcap := Lib.hid hown.cap
  have Hlt := Lib.hid fun g e => (hown.block g e).2
  clear hb1
  go_wp2
  go_ret2
  have hlen : xs.length = l := by have := hl.out; have := H.out; omega
  subst hlen
  refine ⟨w'.heap.size, w'.heap.size + 1, rfl, Hb1.out.size, ⟨⟨A', c', .slice none 0 0, ?_, Hcap.out.1, Hcap.out.2, ?_, ?_, hy⟩, by omega, ?_⟩, ?_⟩
  · exact (Blk.new _ _ _).alloc _
  · simp only [List.nil_append] at hown
    exact Own.rd <| (hown.below ((Below.refl w'.heap.size w').alloc (Nat.le_refl _) _) (Nat.le_refl _)).below ((Below.refl (w'.heap.size + 1) _).alloc (by simp) _) (by simp)
  · exact fun ad e => Hlt.out ad.block (by rw [e]; rfl)
  · have := Blk.new (w'.alloc (.cells #[.slice A' xs.length c', .slice none 0 0] 70)) 83 #[.pointer (some ⟨w'.heap.size, 0, none⟩), .int .i64 (-1)]
    simpa using this
  · have hb := Hb1.out
    exact (hb.alloc hb.size _).alloc (by have := hb.size; simp; omega) _
theorem hrv_ok {w : World} {A : Option Addr} {n c : Nat} {x : Int} {r : List Int} (hr : Rd .u8 w A (x :: r)) (hn : (x :: r).length = n) (hy : Byt (x :: r)) (h47 : n ≤ 140737488355328) (hl : vlen x ≤ r.length + 1) :
    Calls Tryd.prog 36 #[.slice A n c] w fun e w' => e = .returned (.tuple #[.int .i64 (vat x r (vlen x - 1)), .int .i64 (r.drop (vlen x - 1)).length, .int .i64 0]) ∧ Below w.heap.size w w' := by
  go_enter Tryd.func36, Tryd.ntmps36
  go_wp2_with fail
  refine (reads_any hr hn hy h47).mono ?_
  rintro e w1 ⟨Q, S, rfl, hQ, hS, hb1⟩
  go_wp2_with fail
  refine (rv_free hS hl (by omega)).mono ?_
  rintro e w2 ⟨rfl, hS2, hf⟩
  have hi := hS2.1
  have hb2 := Lib.hid (hb1.trans (hf.below hQ (by have := hS2.2.1; omega) hb1.size))
  obtain ⟨A', c', out, hB, _⟩ := hi
  obtain ⟨l, HL⟩ : ∃ l, Hid (l = (r.drop (vlen x - 1)).length) := ⟨_, rfl⟩
  rw [← HL.out] at hB
  have hq : w2.cell? ⟨Q, 0, none⟩ = some (.slice A' l c') := hB.cell 0
  clear hS hS2 hb1 hf hB
  go_wp2_with fail
  go_quiet ((go_at_call 49; exact Calls.quiet_of_same (code_nil _)))
  go_wp2
  go_ret3
  exact ⟨by rw [← HL.out]; rfl, below_drewN hb2.out _⟩
theorem hrv_nil {w : World} {A : Option Addr} {c : Nat} {a0 : Addr} (hE : Eof w a0) :
    Calls Tryd.prog 36 #[.slice A 0 c] w fun e w' => e = .returned (.tuple #[.int .i64 0, .int .i64 0, .int .i64 2]) ∧ Below w.heap.size w w' := by
  have h0 : 0 < w.heap.size := cell_lt hE
  go_enter Tryd.func36, Tryd.ntmps36
  go_wp2_with fail
  refine (reads_any (Rd.nil _ _ _) rfl Byt.nil (Nat.zero_le _)).mono ?_
  rintro e w1 ⟨Q, S, rfl, hQ, hS, hb1⟩
  have hE1 := Lib.hid (hE.below hb1 h0)
  go_wp2_with fail
  refine (rv_nil hS hE1.out).mono ?_
  rintro e w2 ⟨rfl, hi, hf⟩
  have hQS := hS.2.1
  have hb2 := Lib.hid (hb1.trans (hf.below hQ (by omega) hb1.size))
  have hE2 := Lib.hid (hE.below hb2.out h0)
  obtain ⟨A', c', out, hB, _⟩ := hi
  have hq : w2.cell? ⟨Q, 0, none⟩ = some (.slice A' 0 c') := hB.cell 0
  clear hS hb1 hf hB hE hE1
  go_wp2_with fail
  go_quiet ((go_at_call 49; exact Calls.quiet_of_same (code_of (.inr (.inl ⟨rfl, rfl⟩)) hE2.out)))
  go_wp2
  go_ret3
  exact ⟨rfl, below_drewN hb2.out _⟩
theorem hrv_short {w : World} {A : Option Addr} {n c : Nat} {x : Int} {r : List Int} {a0 : Addr} (hr : Rd .u8 w A (x :: r)) (hn : (x :: r).length = n) (hy : Byt (x :: r)) (h47 : n ≤ 140737488355328) (hl : r.length + 1 < vlen x) (hE : Eof w a0) :
    Calls Tryd.prog 36 #[.slice A n c] w fun e w' => e = .returned (.tuple #[.int .i64 0, .int .i64 0, .int .i64 262]) ∧ Below w.heap.size w w' := by
  have h0 : 0 < w.heap.size := cell_lt hE
  go_enter Tryd.func36, Tryd.ntmps36
  go_wp2_with fail
  refine (reads_any hr hn hy h47).mono ?_
  rintro e w1 ⟨Q, S, rfl, hQ, hS, hb1⟩
  have hE1 := Lib.hid (hE.below hb1 h0)
  go_wp2_with fail
  refine (rv_short hS hl hE1.out (by omega)).mono ?_
  rintro e w2 ⟨rfl, hi, hf⟩
  have hQS := hS.2.1
  have hb2 := Lib.hid (hb1.trans (hf.below hQ (by omega) hb1.size))
  have hE2 := Lib.hid (hE.below hb2.out h0)
  obtain ⟨A', c', out, hB, _⟩ := hi
  have hq : w2.cell? ⟨Q, 0, none⟩ = some (.slice A' 0 c') := hB.cell 0
  clear hS hb1 hf hB hE hE1 hn
  go_wp2_with fail
  go_quiet ((go_at_call 49; exact Calls.quiet_of_same (code_of (.inl rfl) hE2.out)))
  go_wp2
  go_ret3
  exact ⟨rfl, below_drewN hb2.out _⟩

/-- ReadVarint, the thin package's: whatever ReadVarint gives is handed on. -/
theorem irv {w : World} {v : Value} {a b k : Int} (h : Calls Tryd.prog 36 #[v] w fun e w' => e = .returned (.tuple #[.int .i64 a, .int .i64 b, .int .i64 k]) ∧ Below w.heap.size w w') :
    Calls Tryd.prog 16 #[v] w fun e w' => e = .returned (.tuple #[.int .i64 a, .int .i64 b, .int .i64 k]) ∧ Below w.heap.size w w' := by
  have H := Lib.hid h
  clear h
  go_enter Tryd.func16, Tryd.ntmps16
  go_wp2_with fail
  refine H.out.mono ?_
  rintro e w1 ⟨rfl, hb⟩
  go_wp2
  go_ret3
  exact ⟨rfl, hb⟩

/-- ParseVarint: nothing, or too little. -/
theorem pv_nil (w : World) (A : Option Addr) (n c : Nat) (hn : n = 0) :
    Calls Tryd.prog 15 #[.slice A n c] w fun e w' => e = .returned (.tuple #[.int .u64 0, .int .i64 0]) ∧ w = w' := by
  subst hn
  go_enter Tryd.func15, Tryd.ntmps15
  go_wp2
  all_goals
    go_ret2
    exact ⟨rfl, rfl⟩
theorem pv_short {w : World} {A : Option Addr} {n c : Nat} {x : Int} {r : List Int} (hr : Rd .u8 w A (x :: r)) (hn : (x :: r).length = n) (hy : Byt (x :: r)) (h63 : n ≤ 9223372036854775807) (hl : n < vlen x) :
    Calls Tryd.prog 15 #[.slice A n c] w fun e w' => e = .returned (.tuple #[.int .u64 0, .int .i64 0]) ∧ w = w' := by
  obtain ⟨b, off, rfl, hc⟩ := hr.head
  obtain ⟨hx0, hx1⟩ := hy.head
  have hn0 : 0 < n := by rw [← hn]; simp
  have hpow := vlen_pow x hx0 hx1
  obtain ⟨hv1, hv8⟩ := vlen_pos x
  have hne : ((n : Int) == 0) = false := by simp; omega
  clear hr hn hy
  go_enter Tryd.func15, Tryd.ntmps15
  go_wp2
  go_ret2
  exact ⟨rfl, rfl⟩
theorem pv_ok {w : World} {A : Option Addr} {n c : Nat} {x : Int} {r : List Int} (hr : Rd .u8 w A (x :: r)) (hn : (x :: r).length = n) (hy : Byt (x :: r)) (h63 : n ≤ 9223372036854775807) (hl : vlen x ≤ n) (hcap : n ≤ c) :
    Calls Tryd.prog 15 #[.slice A n c] w fun e w' => e = .returned (.tuple #[.int .u64 (vat x r (vlen x - 1)), .int .i64 (vlen x)]) ∧ w = w' := by
  obtain ⟨b, off, rfl, hc⟩ := hr.head
  obtain ⟨hx0, hx1⟩ := hy.head
  have Hr : Hid (Byt r) := hy.tail
  have hn0 : 0 < n := by rw [← hn]; simp
  have hrn : r.length + 1 = n := by simpa using hn
  have HC : Hid (∀ j, j < r.length → w.cell? ⟨b, off + 1 + j, none⟩ = some (.int .u8 (nth r j))) := fun j hj => by
    obtain ⟨b', off', hA, h⟩ := hr.tail (by intro e; subst e; simp at hj)
    obtain ⟨rfl, rfl⟩ : b = b' ∧ off + 1 = off' := by simpa using hA
    exact h j hj
  have hpow := vlen_pow x hx0 hx1
  obtain ⟨hv1, hv8⟩ := vlen_pos x
  have hne : ((n : Int) == 0) = false := by simp; omega
  have HN := Lib.hid hrn
  clear hr hn hy hrn
  by_cases hc1 : c = 1
  · have hv : vlen x = 1 := by omega
    obtain rfl : n = 1 := by omega
    subst hc1
    have HV := Lib.hid hv
    rw [hv] at hpow
    rw [hv, show vat x r (1 - 1) = x % 64 from vat_zero x r]
    clear hv hv1 hv8 hl hcap hn0 HC
    go_enter Tryd.func15, Tryd.ntmps15
    go_wp2
    refine wp_loop_rounds 1 ?_
    rw [rounds_succ]
    go_wp2
    go_ret2
    refine ⟨?_, rfl⟩
    show Ending.returned (.tuple #[.int .u64 (x % 64), .int .i64 (wrap64 (2 ^ (x / 64).toNat))]) = _
    rw [hpow]
  · go_enter Tryd.func15, Tryd.ntmps15
    go_wp2
    go_loop [2, 27] (fun v i => ∃ j : Nat, j + 1 ≤ vlen x ∧ i = .int .i64 j ∧ v = .int .u64 (vat x r j)) (fun _ i => vlen x - (intOf i).toNat)
    case atStart => exact ⟨0, by omega, rfl, rfl⟩
    case round =>
      obtain ⟨j, hj, rfl, rfl⟩ := hrel
      by_cases hlt : j + 1 < vlen x
      · have hjr : j < r.length := by have := HN.out; omega
        obtain ⟨hb0, hb1⟩ := vat_small x Hr.out (j := j) (by omega) (by omega)
        obtain ⟨hc0, hc1⟩ := Hr.out.nth j
        have hor := or_byte_u (vat x r j) (nth r j) hb0 hb1 hc0 hc1
        have hsh : IntKind.u64.wrap (vat x r j * 256) = vat x r j * 256 := IntWalk.u64_in _ (by omega)
        have hcell := HC.out j hjr
        have hi : (j : Int) < ((vlen x - 1 : Nat) : Int) := by omega
        go_wp2
        have hvs := vat_succ x hjr
        go_round
        case rel => exact ⟨j + 1, by omega, by go_num, by rw [hvs]⟩
        case measure => simp [intOf]; omega
      · obtain rfl : j = vlen x - 1 := by omega
        go_wp2
        go_ret2
        exact ⟨rfl, rfl⟩
end Go.Proofs.YtfimelphdmmiaaaDoor
