/- Walks of readPrefixedStringWithByte and readPrefixedString. -/
import Derived.Test.YthnaobmepfkkpaaDoorRst1
namespace Go.Proofs.YthnaobmepfkkpaaDoor
open Go Go.RowKit

/-- What the package-level variables hold. -/
structure Glob (w : World) (a0 au ai : Addr) : Prop where
  eof : Eof w a0
  ueof : w.cell? ⟨4, 0, none⟩ = some (.iface 113 (.pointer (some au)))
  inv : w.cell? ⟨5, 0, none⟩ = some (.iface 113 (.pointer (some ai)))
  tl : TabL w
  rc : RowC w
theorem Glob.keep {w w' : World} {a0 au ai : Addr} (h : Glob w a0 au ai) (hk : ∀ k, k ≤ 5 → w'.heap[k]? = w.heap[k]?) : Glob w' a0 au ai where
  eof := (World.cell?_of_block (w := w) (a := ⟨0, 0, none⟩) (hk 0 (by decide))).trans h.eof
  ueof := (World.cell?_of_block (w := w) (a := ⟨4, 0, none⟩) (hk 4 (by decide))).trans h.ueof
  inv := (World.cell?_of_block (w := w) (a := ⟨5, 0, none⟩) (hk 5 (by decide))).trans h.inv
  tl := fun i hi => (World.cell?_of_block (w := w) (a := ⟨1, i, none⟩) (hk 1 (by decide))).trans (h.tl i hi)
  rc := by obtain ⟨t, fr, hc⟩ := h.rc; exact ⟨t, fr, (hk 2 (by decide)).trans hc⟩
theorem Glob.lt {w : World} {a0 au ai : Addr} (h : Glob w a0 au ai) : 5 < w.heap.size := cell_lt h.inv
theorem Glob.fr {w w' : World} {a0 au ai : Addr} {Q S : Nat} (h : Glob w a0 au ai) (hf : Fr Q S w w') (hQ : 5 < Q) (hS : 5 < S) : Glob w' a0 au ai :=
  h.keep fun k hk => hf.block k (by have := h.lt; omega) (by omega) (by omega)

theorem bit_test : ∀ x : Fin 256, ∀ k : Fin 8, (bits .and .u8 ((x.val : Nat) : Int) ((2 : Int) ^ k.val % 256) != 0) = decide (((x.val : Nat) : Int) / 2 ^ k.val % 2 = 1) := by decide +kernel
theorem bit_tst {x : Int} {k : Nat} (h0 : 0 ≤ x) (h1 : x ≤ 255) (h7 : k ≤ 7) : (bits .and .u8 x (2 ^ k % 256) != 0) = decide (x / 2 ^ k % 2 = 1) := by
  have := bit_test ⟨x.toNat, by omega⟩ ⟨k, by omega⟩
  rw [show ((x.toNat : Nat) : Int) = x by omega] at this
  exact this

theorem own_blk8 {w : World} {base D n : Nat} {xs : List Value} (h : w.ownsRow base 5 1 (.slice (some ⟨D, 0, none⟩) n n) n xs) : ∃ cur : Array Value, Blk w D 5 cur ∧ cur.size = n := by
  rcases h.2 with ⟨hv, _⟩ | ⟨g, cap, cur, hv, _, hh, _, _, hs, _⟩
  · cases hv
  · injection hv with h1 _ h3
    injection h1 with h1
    obtain rfl : D = g := by injection h1
    exact ⟨cur, hh, by rw [hs, ← h3]; omega⟩

/-- readPrefixedStringWithByte: the length can't be read. -/
theorem rsw_err {w : World} {S k : Nat} {x v : Int} {te : TypeId} {pe : Value} {R : World → Prop} (h : Calls Tryd.prog 33 #[.pointer (some ⟨S, 0, none⟩), .int .u8 x, .int .u8 k] w fun e w' => e = .returned (.tuple #[.int .i64 v, .iface te pe]) ∧ R w') :
    Calls Tryd.prog 30 #[.pointer (some ⟨S, 0, none⟩), .int .u8 x, .int .u8 k] w fun e w' => e = .returned (.tuple #[.string ByteArray.empty, .iface 66 (.int .i64 512)]) ∧ R w' := by
  have H := Lib.hid h
  clear h
  go_enter Tryd.func30, Tryd.ntmps30
  go_wp2_with fail
  refine H.out.mono ?_
  rintro e w1 ⟨rfl, hR⟩
  have HR := Lib.hid hR
  clear hR H
  go_wp2
  go_ret2
  exact ⟨rfl, HR.out⟩

/-- How the reading of a string ends, in a world w. -/
def RswPost (w : World) (Q S : Nat) (x : Int) (k : Nat) (ys : List Nat) (more : List Int) (e : Ending) (w' : World) : Prop :=
  ((x / 2 ^ k % 2 = 0 ∧ e = .returned (.tuple #[.string (strOfNums (nz ys)), .nilIface])) ∨ (x / 2 ^ k % 2 = 1 ∧ ((∃ str, e = .returned (.tuple #[.string str, .nilIface]) ∧ Unh ys str true) ∨ (e = .returned (.tuple #[.string ByteArray.empty, .iface 66 (.int .i64 512)]) ∧ ∃ s, Unh ys s false)))) ∧ Inp w' Q more ∧ Fr Q S w w'
set_option maxRecDepth 100000 in
set_option maxHeartbeats 1600000 in
/-- .. its bytes are all there. -/
theorem rsw_ok {w : World} {Q S N k : Nat} {lim x : Int} {ys : List Nat} {more : List Int} {a0 au ai : Addr} (hG : Glob w a0 au ai) (h5 : 5 < Q) (hQS : Q < S) (hSw : S < w.heap.size)
    (h : Calls Tryd.prog 33 #[.pointer (some ⟨S, 0, none⟩), .int .u8 x, .int .u8 k] w fun e w' => e = .returned (.tuple #[.int .i64 (N : Int), .nilIface]) ∧ Stm w' Q S lim (nz ys ++ more) ∧ Fr Q Q w w')
    (hx0 : 0 ≤ x) (hx1 : x ≤ 255) (h7 : k ≤ 7) (hN : ys.length = N) (hy : ∀ y ∈ ys, y < 256) (h20 : N ≤ 1048576) (hlim : lim < 0) :
    Calls Tryd.prog 30 #[.pointer (some ⟨S, 0, none⟩), .int .u8 x, .int .u8 k] w (RswPost w Q S x k ys more) := by
  obtain ⟨i0, hi0, hz0, hs0, hb0⟩ := elem8.info
  have H := Lib.hid h
  have HG := Lib.hid hG
  have HN := Lib.hid hN
  have HY := Lib.hid hy
  have hbt := bit_tst (k := k) hx0 hx1 h7
  have Hbt := Lib.hid hbt
  have Hb : Hid (i0.bytes * N ≤ 281474976710656) := by show _ ≤ _; rw [hb0]; omega
  clear h hG hN hy hbt
  go_enter Tryd.func30, Tryd.ntmps30
  go_wp2_with fail
  refine H.out.mono ?_
  rintro e w1 ⟨rfl, hS1, hf1⟩
  have HS1 := Lib.hid hS1
  have HF1 := Lib.hid (hf1.wide S)
  have HG1 := Lib.hid (HG.out.fr hf1 h5 h5)
  have hz1 := hf1.size
  clear hS1 hf1 H HG
  go_wp2_with (at_make; refine wpList_make_full w1 rfl _ _ _ rfl w1.heap.size 5 i0 (.int .u8 0) 1 Tryd.underlying23 hi0 hz0 hs0 .i64 .i64 _ _ N rfl rfl rfl rfl Hb.out (by unfold maxLen; omega) (Nat.le_refl _) ?_; intro w2 hown hg2; have HS2 := Lib.hid (HS1.out.keep (w' := w2) fun k hk => hg2.block k (by omega) (by simp)); have HG2 := Lib.hid (HG1.out.keep (w' := w2) fun k hk => hg2.block k (by omega) (by simp)); have HO2 := Lib.hid (own_blk8 hown); have HF2 := Lib.hid (show Fr Q S w1 w2 from ⟨hg2.os, hg2.tape, hg2.output, hg2.size, fun k hk _ _ => hg2.block k hk (by simp)⟩); clear hown hg2)
  obtain ⟨cur, hD, hcs⟩ := HO2.out
  have HD := Lib.hid hD
  have HCs := Lib.hid hcs
  clear hi0 hz0 hs0 hb0 Hb hD hcs HO2
  have Hall : Hid (Calls Tryd.prog 34 #[.iface 49 (.pointer (some ⟨S, 0, none⟩)), .slice (some ⟨w1.heap.size, 0, none⟩) N N] w2 fun e w' => e = .returned (.tuple #[.int .i64 N, .nilIface]) ∧ Stm w' Q S lim more ∧ Rd .u8 w' (some ⟨w1.heap.size, 0, none⟩) (nz ys) ∧ FrB w1.heap.size Q S w2 w') := by
    by_cases hn0 : N = 0
    · subst hn0
      have hy0 : ys = [] := List.eq_nil_of_length_eq_zero HN.out
      subst hy0
      refine (rff (R := fun w' => w2 = w') ral_zero).mono ?_
      rintro e w' ⟨rfl, rfl⟩
      exact ⟨rfl, HS2.out, Rd.nil _ _ _, FrB.refl _ _ _ _⟩
    · have hx : N ≤ (nz ys ++ more).length := by rw [List.length_append, nz_length]; have := HN.out; omega
      refine (rff (R := fun w' => Stm w' Q S lim ((nz ys ++ more).drop N) ∧ Blk w' w1.heap.size 5 (((nz ys ++ more).take N).map (Value.int .u8)).toArray ∧ FrB w1.heap.size Q S w2 w') (raf_ok HS2.out HG2.out.eof (by show 0 < Q; omega) (by omega) HD.out HCs.out hx (by omega) (by omega) hlim)).mono ?_
      rintro e w' ⟨rfl, h1, h2, h3⟩
      have hl : N = (nz ys).length := by rw [nz_length]; exact HN.out.symm
      rw [hl, List.drop_left] at h1
      rw [hl, List.take_left] at h2
      refine ⟨rfl, h1, fun _ => ⟨_, 0, rfl, fun j hj => ?_⟩, h3⟩
      rw [h2.cell]
      simp only [Nat.zero_add, List.getElem?_toArray, List.getElem?_map, List.getElem?_eq_getElem hj, Option.map_some]
      rw [nth_get hj]
  refine Hall.out.mono ?_
  rintro e w3 ⟨rfl, hS3, hr3, hf3⟩
  have HI3 := Lib.hid hS3.1
  have HR3 := Lib.hid hr3
  have hz3 := hf3.size
  have hz2 := HF2.out.size
  have hDl := HD.out.lt
  have HF3 := Lib.hid (show Fr Q S w w3 from by
    have h12 := HF1.out.trans HF2.out
    exact ⟨hf3.os.trans h12.os, hf3.tape.trans h12.tape, hf3.output.trans h12.output, Nat.le_trans h12.size hf3.size, fun k hk h1 h2 => (hf3.block k (by omega) h1 h2).trans (h12.block k hk h1 h2)⟩)
  have HG3 := Lib.hid (HG2.out.keep (w' := w3) fun k hk => hf3.block k (by omega) (by omega) (by omega))
  clear hS3 hr3 hf3 Hall HS1 HF1 HG1 HS2 HG2 HF2 HD HCs
  by_cases hbit : x / 2 ^ k % 2 = 1
  · have hq : (bits .and .u8 x (2 ^ k % 256) != 0) = true := by simp [Hbt.out, hbit]
    have Hbit := Lib.hid hbit
    have H2 := Lib.hid (hds_any (c := N) HG3.out.tl HG3.out.rc HG3.out.inv HR3.out HN.out HY.out (fun ad e => by cases e; show w1.heap.size < w3.heap.size; omega) (by omega))
    clear hbit
    go_wp2_with fail
    refine H2.out.mono ?_
    rintro e w4 ⟨hres, hb4⟩
    have HI4 := Lib.hid (HI3.out.keep (w' := w4) fun k hk => hb4.block k (by have := HI3.out.lt; omega))
    have HF4 := Lib.hid (HF3.out.trans (Fr.of_below (Q := Q) (S := S) hb4 (Nat.le_refl _)))
    clear hb4 H2
    rcases hres with ⟨str, rfl, hu⟩ | ⟨rfl, hu⟩
    · have HU := Lib.hid hu
      clear hu
      go_wp2
      go_ret2
      exact ⟨.inr ⟨Hbit.out, .inl ⟨str, rfl, HU.out⟩⟩, HI4.out, HF4.out⟩
    · have HU := Lib.hid hu
      clear hu
      go_wp2
      go_ret2
      exact ⟨.inr ⟨Hbit.out, .inr ⟨rfl, HU.out⟩⟩, HI4.out, HF4.out⟩
  · have hq : (bits .and .u8 x (2 ^ k % 256) != 0) = false := by simp [Hbt.out, hbit]
    have Hbit := Lib.hid (show x / 2 ^ k % 2 = 0 by omega)
    have cv := conv_rd (n := N) (c := N) HR3.out (by rw [nz_length]; exact HN.out)
    clear hbit
    go_wp2
    go_ret2
    exact ⟨.inl ⟨Hbit.out, rfl⟩, HI3.out, HF3.out⟩

set_option maxRecDepth 100000 in
set_option maxHeartbeats 1600000 in
/-- .. its bytes break off. -/
theorem rsw_cut {w : World} {Q S N k : Nat} {lim x : Int} {r2 : List Int} {a0 au ai : Addr} (hG : Glob w a0 au ai) (h5 : 5 < Q) (hQS : Q < S) (hSw : S < w.heap.size)
    (h : Calls Tryd.prog 33 #[.pointer (some ⟨S, 0, none⟩), .int .u8 x, .int .u8 k] w fun e w' => e = .returned (.tuple #[.int .i64 (N : Int), .nilIface]) ∧ Stm w' Q S lim r2 ∧ Fr Q Q w w')
    (hN : r2.length < N) (h20 : N ≤ 1048576) (hlim : lim < 0) :
    Calls Tryd.prog 30 #[.pointer (some ⟨S, 0, none⟩), .int .u8 x, .int .u8 k] w fun e w' => e = .returned (.tuple #[.string ByteArray.empty, .iface 66 (.int .i64 512)]) ∧ Inp w' Q [] ∧ Fr Q S w w' := by
  obtain ⟨i0, hi0, hz0, hs0, hb0⟩ := elem8.info
  have H := Lib.hid h
  have HG := Lib.hid hG
  have hN0 : 0 < N := by omega
  have HN := Lib.hid hN
  have Hb : Hid (i0.bytes * N ≤ 281474976710656) := by show _ ≤ _; rw [hb0]; omega
  clear h hG hN
  go_enter Tryd.func30, Tryd.ntmps30
  go_wp2_with fail
  refine H.out.mono ?_
  rintro e w1 ⟨rfl, hS1, hf1⟩
  have HS1 := Lib.hid hS1
  have HF1 := Lib.hid (hf1.wide S)
  have HG1 := Lib.hid (HG.out.fr hf1 h5 h5)
  have hz1 := hf1.size
  clear hS1 hf1 H HG
  go_wp2_with (at_make; refine wpList_make_full w1 rfl _ _ _ rfl w1.heap.size 5 i0 (.int .u8 0) 1 Tryd.underlying23 hi0 hz0 hs0 .i64 .i64 _ _ N rfl rfl rfl rfl Hb.out (by unfold maxLen; omega) (Nat.le_refl _) ?_; intro w2 hown hg2; have HS2 := Lib.hid (HS1.out.keep (w' := w2) fun k hk => hg2.block k (by omega) (by simp)); have HG2 := Lib.hid (HG1.out.keep (w' := w2) fun k hk => hg2.block k (by omega) (by simp)); have HO2 := Lib.hid (own_blk8 hown); have HF2 := Lib.hid (show Fr Q S w1 w2 from ⟨hg2.os, hg2.tape, hg2.output, hg2.size, fun k hk _ _ => hg2.block k hk (by simp)⟩); clear hown hg2)
  obtain ⟨cur, hD, hcs⟩ := HO2.out
  have HD := Lib.hid hD
  have HCs := Lib.hid hcs
  have hDl := hD.lt
  clear hi0 hz0 hs0 hb0 Hb hD hcs HO2
  have Hall : Hid (Calls Tryd.prog 34 #[.iface 49 (.pointer (some ⟨S, 0, none⟩)), .slice (some ⟨w1.heap.size, 0, none⟩) N N] w2 (RafBad w2 w1.heap.size Q S)) := by
    refine rff_bad ?_
    by_cases hx : r2 = []
    · subst hx
      exact raf_none HS2.out HG2.out.eof (by show 0 < Q; omega) hN0 (Nat.le_refl _) (by omega) hlim (by omega)
    · exact raf_cut HS2.out HG2.out.eof HG2.out.ueof (by show 0 < Q; omega) (by show 4 < Q; omega) (by omega) HD.out HCs.out hx HN.out (by omega) hlim
  refine Hall.out.mono ?_
  rintro e w3 ⟨⟨m, te, pe, rfl⟩, hi3, hf3⟩
  have HI3 := Lib.hid hi3
  have HF3 := Lib.hid (show Fr Q S w w3 from by
    have h12 := HF1.out.trans HF2.out
    exact ⟨hf3.os.trans h12.os, hf3.tape.trans h12.tape, hf3.output.trans h12.output, Nat.le_trans h12.size hf3.size, fun k hk h1 h2 => (hf3.block k (by omega) h1 h2).trans (h12.block k hk h1 h2)⟩)
  clear hi3 hf3 Hall HS1 HF1 HG1 HS2 HG2 HF2 HD HCs
  go_wp2
  go_ret2
  exact ⟨rfl, HI3.out, HF3.out⟩

/-- readPrefixedString hands on what readPrefixedStringWithByte gives, with the first byte ahead. -/
theorem rps_cons {w : World} {Q S : Nat} {k : Nat} {lim x : Int} {r : List Int} {R : Value → Value → World → World → Prop} (h : Stm w Q S lim (x :: r)) (h0 : lim < 0)
    (hb : ∀ w1, Stm w1 Q S lim r → Fr Q Q w w1 → Calls Tryd.prog 30 #[.pointer (some ⟨S, 0, none⟩), .int .u8 x, .int .u8 k] w1 fun e w' => ∃ str ev, e = .returned (.tuple #[.string str, ev]) ∧ (ev = .nilIface ∨ ∃ te pe, ev = .iface te pe) ∧ R (.string str) ev w1 w') :
    Calls Tryd.prog 23 #[.pointer (some ⟨S, 0, none⟩), .int .u8 k] w fun e w' => ∃ str ev, e = .returned (.tuple #[.int .u8 x, .string str, ev]) ∧ ∃ w1, Fr Q Q w w1 ∧ R (.string str) ev w1 w' := by
  have Hb := Lib.hid hb
  clear hb
  go_enter Tryd.func23, Tryd.ntmps23
  go_wp2_with fail
  refine (srb_cons h h0).mono ?_
  rintro e w1 ⟨rfl, hS, hf⟩
  have H := Lib.hid (Hb.out w1 hS hf)
  clear hS h Hb
  go_wp2_with fail
  refine H.out.mono ?_
  rintro e w2 ⟨str, ev, rfl, hev, hR⟩
  have HR := Lib.hid hR
  have HF := Lib.hid hf
  clear hR H hf
  rcases hev with rfl | ⟨te, pe, rfl⟩
  · go_wp2
    go_ret3
    exact ⟨str, _, rfl, w1, HF.out, HR.out⟩
  · go_wp2
    go_ret3
    exact ⟨str, _, rfl, w1, HF.out, HR.out⟩
theorem rps_nil {w : World} {Q S : Nat} {k : Nat} {lim : Int} {a0 : Addr} (h : Stm w Q S lim []) (h0 : lim < 0) (hE : Eof w a0) (hQ : 0 < Q) :
    Calls Tryd.prog 23 #[.pointer (some ⟨S, 0, none⟩), .int .u8 k] w fun e w' => e = .returned (.tuple #[.int .u8 0, .string ByteArray.empty, .iface 66 (.int .i64 512)]) ∧ Inp w' Q [] ∧ Fr Q Q w w' := by
  go_enter Tryd.func23, Tryd.ntmps23
  go_wp2_with fail
  refine (srb_nil h h0 hE hQ).mono ?_
  rintro e w1 ⟨rfl, hS, hf⟩
  clear h hE
  go_wp2
  go_ret3
  exact ⟨rfl, hS, hf⟩
end Go.Proofs.YthnaobmepfkkpaaDoor
