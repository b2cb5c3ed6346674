/- Walks of what reads a string's bytes: stream.Read and io.ReadAtLeast, io.ReadFull without a limit; HuffmanDecodeToString. -/
import Derived.Test.YthnaobmepfkkpaaDoorDec7
import Derived.Test.YthnaobmepfkkpaaDoorFrm2
import Derived.Test.YthnaobmepfkkpaaDoorLaid
namespace Go.Proofs.YthnaobmepfkkpaaDoor
open Go Go.RowKit Go.ChangeShapes

theorem nameInv : Tryd.prog.globalNamed "semaphorist/pub/hpack.ErrInvalidHuffman" = some 5 := by kernel_rfl
theorem typeInv : (Tryd.prog.globals[5]?).map (·.type) = some 54 := by kernel_rfl
theorem inv_of {W : World} {r : List (String × DataW Unit)} (h : laidMet Tryd.prog (("semaphorist/pub/hpack.ErrInvalidHuffman", Rows.laid_semaphorist_pub_hpack_ErrInvalidHuffman) :: r) W) : ∃ a, W.cell? ⟨5, 0, none⟩ = some (.iface 113 (.pointer (some a))) := by
  obtain ⟨a, s, hv, _⟩ := laid_sentinel h nameInv typeInv Tryd.underlying54 rowEs Tryd.underlying113 Tryd.underlying131 rfl rfl Tryd.underlying9 cellsEs cellsStr
  exact ⟨a, by simpa using World.var?_cell nameInv hv 0⟩
theorem nameUEOF : Tryd.prog.globalNamed "io.ErrUnexpectedEOF" = some 4 := by kernel_rfl
theorem typeUEOF : (Tryd.prog.globals[4]?).map (·.type) = some 54 := by kernel_rfl
theorem ueof_of {W : World} {r : List (String × DataW Unit)} (h : laidMet Tryd.prog (("io.ErrUnexpectedEOF", Rows.laid_io_ErrUnexpectedEOF) :: r) W) : ∃ a, W.cell? ⟨4, 0, none⟩ = some (.iface 113 (.pointer (some a))) := by
  obtain ⟨a, s, hv, _⟩ := laid_sentinel h nameUEOF typeUEOF Tryd.underlying54 rowEs Tryd.underlying113 Tryd.underlying131 rfl rfl Tryd.underlying9 cellsEs cellsStr
  exact ⟨a, by simpa using World.var?_cell nameUEOF hv 0⟩

set_option maxRecDepth 100000 in
/-- stream.Read without a limit: some bytes are there. -/
theorem srf_some {w : World} {Q S D n m c : Nat} {lim : Int} {xs : List Int} {cur : Array Value} {a0 : Addr} (h : Stm w Q S lim xs) (hE : Eof w a0) (hg : 0 < Q) (hSD : S < D) (hD : Blk w D 5 cur) (hcur : cur.size = n) (hx : xs ≠ []) (hm : m = Nat.min xs.length n) (hn : 0 < n) (h47 : n ≤ 140737488355328) (hlim : lim < 0) :
    Calls Tryd.prog 63 #[.pointer (some ⟨S, 0, none⟩), .slice (some ⟨D, 0, none⟩) n c] w fun e w' => e = .returned (.tuple #[.int .i64 m, .nilIface]) ∧ Stm w' Q S lim (xs.drop m) ∧ Blk w' D 5 ((xs.take m).map (Value.int .u8) ++ cur.toList.drop m).toArray ∧ FrB D Q S w w' := by
  have hQS := h.2.1
  have g1 : w.cell? ⟨S, 0, none⟩ = some (.pointer (some ⟨Q, 0, none⟩)) := h.2.2.cell 0
  have Hq := Lib.hid (qrd_some (c := c) h.1 (by omega) hD hcur hx hm hn h47)
  clear hcur hx hm
  go_enter Tryd.func63, Tryd.ntmps63
  go_wp2_with fail
  refine Hq.out.mono ?_
  rintro e w1 ⟨rfl, hi, hD1, hf⟩
  have hS1 := Lib.hid (h.frb hSD hf hi)
  have hE1 := Lib.hid (hE.frb hf (by omega) hg hg)
  have HD1 := Lib.hid hD1
  clear hi h hE hD hD1 Hq
  go_wp2_with fail
  refine (rec_no (m : Int) hS1.out hlim).mono ?_
  rintro e w2 ⟨rfl, rfl⟩
  have hE2 : w1.cell? ⟨0, 0, none⟩ = some (.iface 113 (.pointer (some a0))) := hE1.out
  have hq := run_eql_iface_nil_left (P := Tryd.prog) (w := w1) 113 (.pointer (some a0)) Tryd.underlying54
  clear hE1
  go_wp2
  go_ret2
  exact ⟨rfl, hS1.out, HD1.out, hf.wide S⟩
set_option maxRecDepth 100000 in
/-- stream.Read without a limit: nothing is there. -/
theorem srf_none {w : World} {Q S n c : Nat} {lim : Int} {B : Option Addr} {a0 : Addr} (h : Stm w Q S lim []) (hE : Eof w a0) (hg : 0 < Q) (hn : 0 < n) (hlim : lim < 0) :
    Calls Tryd.prog 63 #[.pointer (some ⟨S, 0, none⟩), .slice B n c] w fun e w' => e = .returned (.tuple #[.int .i64 0, .iface 113 (.pointer (some a0))]) ∧ Stm w' Q S lim [] ∧ Fr Q S w w' := by
  have hQS := h.2.1
  have g1 : w.cell? ⟨S, 0, none⟩ = some (.pointer (some ⟨Q, 0, none⟩)) := h.2.2.cell 0
  have hp : Tryd.prog.underlying 113 = some (.pointer 131) := Tryd.underlying113
  obtain ⟨i, hi, hcm⟩ := Option.map_eq_some_iff.1 (show (Tryd.prog.info? 113).map (·.comparable) = some true by kernel_rfl)
  obtain ⟨j, hj, _⟩ := Option.map_eq_some_iff.1 (show (Tryd.prog.info? 131).map (·.size) = some 1 by kernel_rfl)
  have HE := Lib.hid fun W : World => run_eql_iface_ptr_same (P := Tryd.prog) W a0 Tryd.underlying54 hp hi hcm hj
  have Hq := Lib.hid (qrd_none (B := B) (c := c) h.1 hE hn)
  clear hi hcm hj hp
  go_enter Tryd.func63, Tryd.ntmps63
  go_wp2_with fail
  refine Hq.out.mono ?_
  rintro e w1 ⟨rfl, hi, hf⟩
  have hS1 := Lib.hid (h.input hf hi)
  have hE1 := Lib.hid (hE.fr hf hg hg)
  clear hi h hE Hq
  go_wp2_with fail
  refine (rec_no 0 hS1.out hlim).mono ?_
  rintro e w2 ⟨rfl, rfl⟩
  have hE2 : w1.cell? ⟨0, 0, none⟩ = some (.iface 113 (.pointer (some a0))) := hE1.out
  have hq := HE.out w1
  have g2 : w1.cell? ⟨S, 1, none⟩ = some (.int .i64 lim) := hS1.out.2.2.cell 1
  have hl0 : (lim == 0) = false := by simp; omega
  clear hE1 HE
  go_wp2
  go_quiet (fail)
  go_wp2
  go_ret2
  exact ⟨rfl, hS1.out.keep fun _ _ => rfl, (hf.wide S).drewN _⟩

set_option maxRecDepth 100000 in
set_option maxHeartbeats 400000 in
theorem raf_ok {w : World} {Q S D n : Nat} {lim : Int} {xs : List Int} {cur : Array Value} {a0 : Addr} (h : Stm w Q S lim xs) (hE : Eof w a0) (hg : 0 < Q) (hSD : S < D) (hD : Blk w D 5 cur) (hcur : cur.size = n) (hx : n ≤ xs.length) (hn : 0 < n) (h47 : n ≤ 140737488355328) (hlim : lim < 0) :
    Calls Tryd.prog 36 #[.iface 49 (.pointer (some ⟨S, 0, none⟩)), .slice (some ⟨D, 0, none⟩) n n, .int .i64 n] w fun e w' => e = .returned (.tuple #[.int .i64 n, .nilIface]) ∧ Stm w' Q S lim (xs.drop n) ∧ Blk w' D 5 ((xs.take n).map (Value.int .u8)).toArray ∧ FrB D Q S w w' := by
  have Hr := Lib.hid fun W (hW : W = w.drew) => (show Calls Tryd.prog 63 #[.pointer (some ⟨S, 0, none⟩), .slice (some ⟨D, 0, none⟩) n n] W _ from hW ▸ srf_some (c := n) (m := n) (w := w.drew) h.drew hE hg hSD hD hcur (by intro e; subst e; simp at hx; omega) (Nat.min_eq_right hx).symm hn h47 hlim)
  clear h hE hD
  have m1 := nil_ahead
  have m2 := method_read
  go_enter Tryd.func36, Tryd.ntmps36
  go_wp2
  refine wp_loop_rounds 2 ?_
  rw [rounds_succ]
  go_wp2_with fail
  go_region_with (go_at_call 63; refine (Hr.out _ rfl).mono ?_; rintro e w1 ⟨rfl, hS1, hD1, hf1⟩)
  have HS1 := Lib.hid hS1
  have HD1 := Lib.hid hD1
  clear hS1 hD1 m1 m2 Hr
  go_wp2
  rw [rounds_succ]
  go_wp2
  go_ret2
  refine ⟨rfl, HS1.out, ?_, ⟨hf1.os, hf1.tape, hf1.output, hf1.size, hf1.block⟩⟩
  have := HD1.out
  rw [List.drop_eq_nil_of_le (by simp; omega), List.append_nil] at this
  exact this
/-- An error of reading: whatever it is. -/
def RafBad (w : World) (D Q S : Nat) (e : Ending) (w' : World) : Prop := (∃ (m : Nat) (te : TypeId) (pe : Value), e = .returned (.tuple #[.int .i64 m, .iface te pe])) ∧ Inp w' Q [] ∧ FrB D Q S w w'
set_option maxRecDepth 100000 in
set_option maxHeartbeats 800000 in
theorem raf_none {w : World} {Q S D n c : Nat} {lim : Int} {B : Option Addr} {a0 : Addr} (h : Stm w Q S lim []) (hE : Eof w a0) (hg : 0 < Q) (hn : 0 < n) (hnc : n ≤ c) (h47 : n ≤ 140737488355328) (hlim : lim < 0) (hD : D ≤ w.heap.size) :
    Calls Tryd.prog 36 #[.iface 49 (.pointer (some ⟨S, 0, none⟩)), .slice B n c, .int .i64 n] w (RafBad w D Q S) := by
  have Hr := Lib.hid fun W (hW : W = w.drew) => (show Calls Tryd.prog 63 #[.pointer (some ⟨S, 0, none⟩), .slice B n c] W _ from hW ▸ srf_none (B := B) (c := c) (w := w.drew) h.drew hE hg hn hlim)
  have m1 := nil_ahead
  have m2 := method_read
  have hc0 : c ≠ 0 := by omega
  clear h hE
  go_enter Tryd.func36, Tryd.ntmps36
  go_wp2
  refine wp_loop_rounds 2 ?_
  rw [rounds_succ]
  go_wp2_with fail
  go_region_with (go_at_call 63; refine (Hr.out _ rfl).mono ?_; rintro e w1 ⟨rfl, hS1, hf1⟩)
  have HS1 := Lib.hid hS1
  clear hS1 m1 m2 Hr
  go_wp2
  rw [rounds_succ]
  go_wp2
  go_ret2
  exact ⟨⟨0, _, _, rfl⟩, HS1.out.1, FrB.of_fr ⟨hf1.os, hf1.tape, hf1.output, hf1.size, hf1.block⟩ hD⟩
set_option maxRecDepth 100000 in
set_option maxHeartbeats 800000 in
/-- Some bytes are there, but not all. -/
theorem raf_cut {w : World} {Q S D n : Nat} {lim : Int} {xs : List Int} {cur : Array Value} {a0 au : Addr} (h : Stm w Q S lim xs) (hE : Eof w a0) (hU : w.cell? ⟨4, 0, none⟩ = some (.iface 113 (.pointer (some au)))) (hg : 0 < Q) (hgu : 4 < Q) (hSD : S < D) (hD : Blk w D 5 cur) (hcur : cur.size = n) (hx : xs ≠ []) (hxn : xs.length < n) (h47 : n ≤ 140737488355328) (hlim : lim < 0) :
    Calls Tryd.prog 36 #[.iface 49 (.pointer (some ⟨S, 0, none⟩)), .slice (some ⟨D, 0, none⟩) n n, .int .i64 n] w (RafBad w D Q S) := by
  have hQS := h.2.1
  have hl0 : 0 < xs.length := List.length_pos_iff.2 hx
  obtain ⟨m, Hm⟩ : ∃ m, Hid (m = xs.length) := ⟨_, rfl⟩
  have Hr := Lib.hid fun W (hW : W = w.drew) => (show Calls Tryd.prog 63 #[.pointer (some ⟨S, 0, none⟩), .slice (some ⟨D, 0, none⟩) n n] W _ from hW ▸ srf_some (c := n) (m := m) (w := w.drew) h.drew hE hg hSD hD hcur hx (by rw [Hm.out]; exact (Nat.min_eq_left (by omega)).symm) (by omega) h47 hlim)
  have hm0 : 0 < m := by rw [Hm.out]; exact hl0
  have hmn : m < n := by rw [Hm.out]; exact hxn
  have HE := Lib.hid hE
  have HU := Lib.hid hU
  have hdrop : xs.drop m = [] := by rw [Hm.out]; exact List.drop_length
  rw [hdrop] at Hr
  have m1 := nil_ahead
  have m2 := method_read
  have hnm : n ≠ m := by omega
  have hp : Tryd.prog.underlying 113 = some (.pointer 131) := Tryd.underlying113
  obtain ⟨i, hi, hcm⟩ := Option.map_eq_some_iff.1 (show (Tryd.prog.info? 113).map (·.comparable) = some true by kernel_rfl)
  obtain ⟨j, hj, _⟩ := Option.map_eq_some_iff.1 (show (Tryd.prog.info? 131).map (·.size) = some 1 by kernel_rfl)
  have HEq := Lib.hid fun W : World => run_eql_iface_ptr_same (P := Tryd.prog) W a0 Tryd.underlying54 hp hi hcm hj
  clear h hE hU hD hx hxn hl0 hdrop hcur hi hcm hj hp
  go_enter Tryd.func36, Tryd.ntmps36
  go_wp2
  refine wp_loop_rounds 3 ?_
  rw [rounds_succ]
  go_wp2_with fail
  go_region_with (go_at_call 63; refine (Hr.out _ rfl).mono ?_; rintro e w1 ⟨rfl, hS1, hD1, hf1⟩)
  have hE1 := Lib.hid ((show Eof w.drew a0 from HE.out).frb hf1 (by omega) hg (by omega))
  have hU1 := Lib.hid ((World.cell?_of_block (w := w.drew) (a := ⟨4, 0, none⟩) (hf1.block 4 (by omega) (show 4 ≠ Q by omega) (show 4 ≠ S by omega))).trans HU.out)
  have Hr2 := Lib.hid fun W (hW : W = w1.drew) => (show Calls Tryd.prog 63 #[.pointer (some ⟨S, 0, none⟩), .slice (some ⟨D, m, none⟩) (n - m) (n - m)] W _ from hW ▸ srf_none (B := some ⟨D, m, none⟩) (c := n - m) (w := w1.drew) hS1.drew hE1.out hg (by omega) hlim)
  have HDlt := Lib.hid hD1.lt
  clear hS1 Hr hD1
  go_wp2
  rw [rounds_succ]
  go_wp2_with fail
  go_region_with (go_at_call 63; refine (Hr2.out _ rfl).mono ?_; rintro e w2 ⟨rfl, hS2, hf2⟩)
  all_goals
    have hE2 : w2.cell? ⟨0, 0, none⟩ = some (.iface 113 (.pointer (some a0))) := (show Eof w1.drew a0 from hE1.out).fr hf2 hg (by omega)
    have hU2 : w2.cell? ⟨4, 0, none⟩ = some (.iface 113 (.pointer (some au))) := hf2.cell (w := w1.drew) hU1.out (show 4 ≠ Q by omega) (show 4 ≠ S by omega)
    have hq := HEq.out w2
    have HI := Lib.hid hS2.1
    clear hS2 Hr2 m1 m2 hE1 hU1
    go_wp2
    rw [rounds_succ]
    go_wp2
    go_ret2
    refine ⟨⟨m, _, _, rfl⟩, HI.out, ?_⟩
    have hf1' : FrB D Q S w w1 := ⟨hf1.os, hf1.tape, hf1.output, hf1.size, hf1.block⟩
    refine ⟨hf2.os.trans hf1'.os, hf2.tape.trans hf1'.tape, hf2.output.trans hf1'.output, Nat.le_trans hf1'.size hf2.size, fun k hk h1 h2 => ?_⟩
    exact (hf2.block k (Nat.lt_trans hk (show D < w1.heap.size from HDlt.out)) h1 h2).trans (hf1'.block k hk h1 h2)

/-- ReadFull hands on what ReadAtLeast gives. -/
theorem rff {w : World} {r : Value} {B : Option Addr} {n c : Nat} {R : World → Prop} {a : Int} {ev : Value} (h : Calls Tryd.prog 36 #[r, .slice B n c, .int .i64 n] w fun e w' => e = .returned (.tuple #[.int .i64 a, ev]) ∧ R w') :
    Calls Tryd.prog 34 #[r, .slice B n c] w fun e w' => e = .returned (.tuple #[.int .i64 a, ev]) ∧ R w' := by
  have H := Lib.hid h
  clear h
  go_enter Tryd.func34, Tryd.ntmps34
  go_wp2_with fail
  refine H.out.mono ?_
  rintro e w1 ⟨rfl, hR⟩
  have HR := Lib.hid hR
  clear hR H
  go_wp2
  go_ret2
  exact ⟨rfl, HR.out⟩
theorem rff_bad {w : World} {r : Value} {B : Option Addr} {n c D Q S : Nat} (h : Calls Tryd.prog 36 #[r, .slice B n c, .int .i64 n] w (RafBad w D Q S)) :
    Calls Tryd.prog 34 #[r, .slice B n c] w (RafBad w D Q S) := by
  have H := Lib.hid h
  clear h
  go_enter Tryd.func34, Tryd.ntmps34
  go_wp2_with fail
  refine H.out.mono ?_
  rintro e w1 ⟨⟨m, te, pe, rfl⟩, hR⟩
  have HR := Lib.hid hR
  clear hR H
  go_wp2
  go_ret2
  exact ⟨⟨m, te, pe, rfl⟩, HR.out⟩

/-- How HuffmanDecodeToString ends. -/
def HdsPost (w : World) (ev : Value) (ys : List Nat) (e : Ending) (w' : World) : Prop :=
  ((∃ str, e = .returned (.tuple #[.string str, .nilIface]) ∧ Unh ys str true) ∨ (e = .returned (.tuple #[.string ByteArray.empty, ev]) ∧ ∃ s, Unh ys s false)) ∧ Below w.heap.size w w'
set_option maxRecDepth 100000 in
set_option maxHeartbeats 800000 in
theorem hds_any {w : World} {A : Option Addr} {m c : Nat} {ys : List Nat} {te : TypeId} {pe : Value} (hT : TabL w) (hC' : RowC w) (hev : w.cell? ⟨5, 0, none⟩ = some (.iface te pe))
    (hr : Rd .u8 w A (nz ys)) (hm : ys.length = m) (hy : ∀ y ∈ ys, y < 256) (hA : ∀ ad, A = some ad → ad.block < w.heap.size) (h40 : m ≤ 1099511627776) :
    Calls Tryd.prog 35 #[.slice A m c] w (HdsPost w (.iface te pe) ys) := by
  have hgB : 5 < w.heap.size := cell_lt hev
  have hwl := hT.lt
  have hwc : 2 < w.heap.size := by obtain ⟨t, fr, h⟩ := hC'; exact lt_of_some h
  have hb0 := ((Below.refl w.heap.size w).alloc (Nat.le_refl _) (.cells #[.slice none 0 0, .int .i64 0, .int .i8 0] 94))
  have H := Lib.hid (dec_any (w := w.alloc (.cells #[.slice none 0 0, .int .i64 0, .int .i8 0] 94)) (B := w.heap.size) (b := w.heap.size) (c := c) (hT.below hb0 hwl) (hC'.below hb0 hwc) (Lib.fresh_isBuffer 94 5 w) ((hb0.cell (p := ⟨5, 0, none⟩) hgB).trans hev) ⟨te, pe, rfl⟩ hgB (hr.below hb0 (Nat.le_refl _)) hm hy hA h40)
  have HB0 := Lib.hid hb0
  clear hT hC' hev hr hm hy hA hb0
  go_enter Tryd.func35, Tryd.ntmps35
  go_wp2_with fail
  refine H.out.mono ?_
  rintro e w1 ⟨hres, hb1⟩
  have HB1 := Lib.hid (HB0.out.trans hb1)
  clear hb1 H HB0
  rcases hres with ⟨acc, rfl, hu, hby, hbf⟩ | ⟨rfl, hu⟩
  · have HU := Lib.hid hu
    have HBf := Lib.hid (show Lib.IsBuffer 94 5 w.heap.size w.heap.size (Lib.byteCells (acc.map UInt8.ofNat)) w1 by rw [← cellsN_bytes hby]; exact hbf)
    clear hu hby hbf
    go_wp2_with fail
    refine (buf_str HBf.out).mono ?_
    rintro e w2 ⟨rfl, q, rfl⟩
    go_wp2
    go_ret2
    exact ⟨.inl ⟨_, rfl, by rw [str_bytes]; exact HU.out⟩, below_drewN HB1.out q⟩
  · have HU := Lib.hid hu
    clear hu
    go_wp2
    go_ret2
    exact ⟨.inr ⟨rfl, HU.out⟩, HB1.out⟩
end Go.Proofs.YthnaobmepfkkpaaDoor
