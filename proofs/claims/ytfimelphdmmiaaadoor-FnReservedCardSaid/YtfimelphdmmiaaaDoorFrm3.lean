/- Walks of io.ReadFull, readFrameData, endFrame, readFrameHeader. -/
import Derived.Test.YtfimelphdmmiaaaDoorFrm2
import Derived.Test.YtfimelphdmmiaaaDoorNum4
namespace Go.Proofs.YtfimelphdmmiaaaDoor
open Go Go.RowKit

/-- ReadFull hands on what ReadAtLeast gives. -/
theorem rf {w : World} {r : Value} {B : Option Addr} {n c : Nat} {a : Int} {ev : Value} {R : World → Prop} (h : Calls Tryd.prog 72 #[r, .slice B n c, .int .i64 n] w fun e w' => e = .returned (.tuple #[.int .i64 a, ev]) ∧ R w') :
    Calls Tryd.prog 68 #[r, .slice B n c] w fun e w' => e = .returned (.tuple #[.int .i64 a, ev]) ∧ R w' := by
  have H := Lib.hid h
  clear h
  go_enter Tryd.func68, Tryd.ntmps68
  go_wp2_with fail
  refine H.out.mono ?_
  rintro e w1 ⟨rfl, hR⟩
  have HR := Lib.hid hR
  clear hR H
  go_wp2
  go_ret2
  exact ⟨rfl, HR.out⟩

theorem elem8info : ∃ i, Tryd.prog.info? 5 = some i ∧ i.zero = some (.int .u8 0) ∧ i.size = 1 ∧ i.bytes = 1 := elem8.info

/-- What readFrameData finds. -/
theorem own_blk {w : World} {base D n : Nat} {xs : List Value} (h : w.ownsRow base 5 1 (.slice (some ⟨D, 0, none⟩) n n) n xs) : ∃ cur : Array Value, Blk w D 5 cur ∧ cur.size = n := by
  rcases h.2 with ⟨hv, _⟩ | ⟨g, cap, cur, hv, _, hh, _, _, hs, _⟩
  · cases hv
  · injection hv with h1 _ h3
    injection h1 with h1
    obtain rfl : D = g := by injection h1
    exact ⟨cur, hh, by rw [hs, ← h3]; omega⟩

set_option maxRecDepth 100000 in
set_option maxHeartbeats 400000 in
/-- readFrameData: the whole of it. -/
theorem rfd_ok {w : World} {Q S n : Nat} {p rest : List Int} {a0 : Addr} (h : Stm w Q S n (p ++ rest)) (hE : Eof w a0) (hg : 0 < Q) (hp : p.length = n) (h47 : n ≤ 140737488355328) :
    Calls Tryd.prog 53 #[.pointer (some ⟨S, 0, none⟩)] w fun e w' => (e = .returned (.tuple #[.slice (some ⟨w.heap.size, 0, none⟩) n n, .nilIface]) ∧ Rd .u8 w' (some ⟨w.heap.size, 0, none⟩) p) ∧ Stm w' Q S 0 rest ∧ Fr Q S w w' := by
  have g1 : w.cell? ⟨S, 1, none⟩ = some (.int .i64 n) := h.2.2.cell 1
  obtain ⟨i0, hi0, hz0, hs0, hb0⟩ := elem8info
  have H := Lib.hid h
  have HE := Lib.hid hE
  have HP := Lib.hid hp
  have hQS := h.2.1
  have hSw := h.2.2.lt
  have Hb : Hid (i0.bytes * n ≤ 281474976710656) := by show _ ≤ _; rw [hb0]; omega
  clear h hE hp
  go_enter Tryd.func53, Tryd.ntmps53
  go_wp2_with (at_make; refine wpList_make_full w rfl _ _ _ rfl w.heap.size 5 i0 (.int .u8 0) 1 Tryd.underlying23 hi0 hz0 hs0 .i64 .i64 _ _ n rfl rfl rfl rfl Hb.out (by unfold maxLen; omega) (Nat.le_refl _) ?_; intro w1 hown hg1; have hst1 := Lib.hid (H.out.keep (w' := w1) fun k hk => hg1.block k (by omega) (by simp)); have he1 := Lib.hid (show Eof w1 a0 from (World.cell?_of_block (w := w) (a := ⟨0, 0, none⟩) (hg1.block 0 (by omega) (by simp))).trans HE.out); have hob := Lib.hid (own_blk hown); clear hown)
  obtain ⟨cur, hD, hcs⟩ := hob.out
  have hDl := hD.lt
  by_cases hn0 : n = 0
  · subst hn0
    have hp0 : p = [] := List.eq_nil_of_length_eq_zero HP.out
    subst hp0
    have hst := Lib.hid hst1.out
    clear hst1 hob hD hcs g1
    refine (rf (R := fun w' => w1 = w') ral_zero).mono ?_
    rintro e w2 ⟨rfl, rfl⟩
    go_wp2
    go_ret2
    exact ⟨⟨rfl, Rd.nil _ _ _⟩, hst.out, ⟨hg1.os, hg1.tape, hg1.output, hg1.size, fun k hk _ _ => hg1.block k hk (by simp)⟩⟩
  · have hx : n ≤ (p ++ rest).length := by simp; have := HP.out; omega
    have hc := rf (R := fun w' => Stm w' Q S ((n : Int) - n) ((p ++ rest).drop n) ∧ Blk w' w.heap.size 5 (((p ++ rest).take n).map (Value.int .u8)).toArray ∧ FrB w.heap.size Q S w1 w') (ral_ok hst1.out he1.out hg hSw hD hcs hx (by omega) h47 (Int.le_refl _) (by omega))
    refine hc.mono ?_
    rintro e w2 ⟨rfl, hS2, hD2, hf2⟩
    rw [← HP.out, List.drop_left] at hS2
    rw [← HP.out, List.take_left] at hD2
    rw [Int.sub_self] at hS2
    have HS2 := Lib.hid hS2
    have HR : Hid (Rd .u8 w2 (some ⟨w.heap.size, 0, none⟩) p) := fun _ => ⟨_, 0, rfl, fun j hj => by
      rw [hD2.cell (0 + j), Nat.zero_add]
      simp [nth_get hj, hj]⟩
    clear hst1 hob hD hcs g1 hS2 hD2 hc hx
    go_wp2
    go_ret2
    exact ⟨⟨rfl, HR.out⟩, HS2.out, ⟨hf2.os.trans hg1.os, hf2.tape.trans hg1.tape, hf2.output.trans hg1.output, Nat.le_trans hg1.size hf2.size, fun k hk h1 h2 => (hf2.block k hk h1 h2).trans (hg1.block k hk (by simp))⟩⟩

set_option maxRecDepth 100000 in
set_option maxHeartbeats 400000 in
/-- readFrameData: it breaks off. -/
theorem rfd_cut {w : World} {Q S n : Nat} {xs : List Int} {a0 : Addr} (h : Stm w Q S n xs) (hE : Eof w a0) (hg : 0 < Q) (hp : xs.length < n) (h47 : n ≤ 140737488355328) :
    Calls Tryd.prog 53 #[.pointer (some ⟨S, 0, none⟩)] w fun e w' => e = .returned (.tuple #[.slice none 0 0, .iface 92 (.int .i64 262)]) ∧ Inp w' Q [] ∧ Fr Q S w w' := by
  have g1 : w.cell? ⟨S, 1, none⟩ = some (.int .i64 n) := h.2.2.cell 1
  obtain ⟨i0, hi0, hz0, hs0, hb0⟩ := elem8info
  have H := Lib.hid h
  have HE := Lib.hid hE
  have HP := Lib.hid hp
  have hQS := h.2.1
  have hSw := h.2.2.lt
  have Hb : Hid (i0.bytes * n ≤ 281474976710656) := by show _ ≤ _; rw [hb0]; omega
  have hn0 : 0 < n := by omega
  clear h hE hp
  go_enter Tryd.func53, Tryd.ntmps53
  go_wp2_with (at_make; refine wpList_make_full w rfl _ _ _ rfl w.heap.size 5 i0 (.int .u8 0) 1 Tryd.underlying23 hi0 hz0 hs0 .i64 .i64 _ _ n rfl rfl rfl rfl Hb.out (by unfold maxLen; omega) (Nat.le_refl _) ?_; intro w1 hown hg1; have hst1 := Lib.hid (H.out.keep (w' := w1) fun k hk => hg1.block k (by omega) (by simp)); have he1 := Lib.hid (show Eof w1 a0 from (World.cell?_of_block (w := w) (a := ⟨0, 0, none⟩) (hg1.block 0 (by omega) (by simp))).trans HE.out); have hob := Lib.hid (own_blk hown); clear hown)
  obtain ⟨cur, hD, hcs⟩ := hob.out
  have HD := Lib.hid hD
  have Hcs := Lib.hid hcs
  clear hD hcs hob g1
  by_cases hx : xs = []
  · subst hx
    have hc := Lib.hid (rf (R := fun w' => Stm w' Q S n [] ∧ Fr Q S w1 w') (ral_none (B := some ⟨w.heap.size, 0, none⟩) (c := n) hst1.out he1.out hg hn0 (Nat.le_refl _) h47 (by omega) (by omega)))
    refine hc.out.mono ?_
    rintro e w2 ⟨rfl, hS2, hf2⟩
    have HS2 := Lib.hid hS2.1
    clear hS2 hst1 hc
    go_wp2
    go_ret2
    exact ⟨rfl, HS2.out, ⟨hf2.os.trans hg1.os, hf2.tape.trans hg1.tape, hf2.output.trans hg1.output, Nat.le_trans hg1.size hf2.size, fun k hk h1 h2 => (hf2.block k (Nat.lt_of_lt_of_le hk hg1.size) h1 h2).trans (hg1.block k hk (by simp))⟩⟩
  · have hral := ral_cut hst1.out he1.out hg hSw HD.out Hcs.out hx HP.out h47 (Int.le_refl _) (by omega)
    have hc : Calls Tryd.prog 68 #[.iface 61 (.pointer (some ⟨S, 0, none⟩)), .slice (some ⟨w.heap.size, 0, none⟩) n n] w1 fun e w' => (∃ m : Nat, e = .returned (.tuple #[.int .i64 m, .iface 92 (.int .i64 262)])) ∧ Inp w' Q [] ∧ FrB w.heap.size Q S w1 w' := by
      have Hr := Lib.hid hral
      clear hral hst1 he1
      go_enter Tryd.func68, Tryd.ntmps68
      go_wp2_with fail
      refine Hr.out.mono ?_
      rintro e w2 ⟨⟨m, rfl⟩, hR⟩
      have HR := Lib.hid hR
      clear hR Hr
      go_wp2
      go_ret2
      exact ⟨⟨m, rfl⟩, HR.out⟩
    refine hc.mono ?_
    rintro e w2 ⟨⟨m, rfl⟩, hI2, hf2⟩
    have HI2 := Lib.hid hI2
    clear hI2 hst1 hc hral
    go_wp2
    go_ret2
    exact ⟨rfl, HI2.out, ⟨hf2.os.trans hg1.os, hf2.tape.trans hg1.tape, hf2.output.trans hg1.output, Nat.le_trans hg1.size hf2.size, fun k hk h1 h2 => (hf2.block k hk h1 h2).trans (hg1.block k hk (by simp))⟩⟩

/-- endFrame at a frame's end. -/
theorem ef_ok {w : World} {Q S : Nat} {xs : List Int} (h : Stm w Q S 0 xs) :
    Calls Tryd.prog 54 #[.pointer (some ⟨S, 0, none⟩)] w fun e w' => e = .returned .nilIface ∧ Stm w' Q S (-1) xs ∧ Fr Q S w w' := by
  have g1 : w.cell? ⟨S, 1, none⟩ = some (.int .i64 0) := h.2.2.cell 1
  have f1 := h.2.2.frozen 1
  have H := Lib.hid h
  clear h
  go_enter Tryd.func54, Tryd.ntmps54
  go_wp2
  go_ret
  exact ⟨rfl, H.out.lim_ _, (Fr.refl Q S w).setCell (.inr (.inl rfl)) _⟩
end Go.Proofs.YtfimelphdmmiaaaDoor
