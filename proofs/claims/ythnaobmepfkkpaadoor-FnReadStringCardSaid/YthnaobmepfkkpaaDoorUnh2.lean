/- Walk of the reference's Unhuffman. -/
import Derived.Test.YthnaobmepfkkpaaDoorUnh1
import Derived.Deep.QuietTactic
import Derived.BigQuiet
namespace Go.Proofs.YthnaobmepfkkpaaDoor
open Go Go.RowKit

/-- What the reference's Unhuffman says of bytes. -/
def Unh (ys : List Nat) (str : ByteArray) (ok : Bool) : Prop := (steps look (bitsB ys) ([], 0, 0) = none ∧ str = ByteArray.empty ∧ ok = false) ∨
  ∃ acc long n, steps look (bitsB ys) ([], 0, 0) = some (acc, long, n) ∧ str = strOfNums (nz acc) ∧ ok = decide (long < 8 ∧ n = 2 ^ long - 1)
theorem Unh.bad {ys : List Nat} {i : Nat} (h : steps look ((bitsB ys).take i) ([], 0, 0) = none) : Unh ys ByteArray.empty false := by
  refine .inl ⟨?_, rfl, rfl⟩
  rw [← List.take_append_drop i (bitsB ys)]
  exact steps_none h
def UnhPost (w : World) (ys : List Nat) (e : Ending) (w' : World) : Prop := (∃ str ok, e = .returned (.tuple #[.string str, .bool ok]) ∧ Unh ys str ok) ∧ Below w.heap.size w w'
set_option maxRecDepth 100000 in
set_option maxHeartbeats 1600000 in
theorem unh_any {w : World} {A : Option Addr} {m c : Nat} {ys : List Nat} (hr : Rd .u8 w A (nz ys)) (hm : ys.length = m) (h40 : m ≤ 1099511627776) (hy : ∀ y ∈ ys, y ≤ 255) :
    Calls Tryd.prog 14 #[.slice A m c] w (UnhPost w ys) := by
  have hmm := @run_makeMap Tryd.prog
  have HR := Lib.hid hr
  have HM := Lib.hid hm
  have HY := Lib.hid hy
  clear hr hm hy
  go_enter Tryd.func14, Tryd.ntmps14
  go_wp2_with fail
  refine (lengths_any w).mono ?_
  rintro e w1 ⟨rfl, ho1, hb1⟩
  have HO1 := Lib.hid ho1
  have HB1 := Lib.hid hb1
  clear ho1 hb1
  go_wp2_with fail
  refine (codes_any HO1.out.rd).mono ?_
  rintro e w2 ⟨rfl, ho2, hb2⟩
  have HB2 := Lib.hid (HB1.out.trans (hb2.mono HB1.out.size))
  have HL : Hid (∀ x, x < 257 → w2.cell? ⟨w.heap.size, x, none⟩ = some (.int .i64 (hL x : Nat))) := fun x hx => by
    obtain ⟨b', off', hA, h⟩ := (Own.below HO1.out hb2 (Nat.le_refl _)).rd (by intro e; have := lensI_len; rw [e] at this; simp at this)
    obtain ⟨rfl, rfl⟩ : w.heap.size = b' ∧ 0 = off' := by simpa using hA
    have := h x (by rw [lensI_len]; exact hx)
    rw [Nat.zero_add] at this
    rw [this, lens_at hx]
  have HC : Hid (∀ x, x < 257 → w2.cell? ⟨w1.heap.size, x, none⟩ = some (.int .i64 (hC x : Nat))) := fun x hx => by
    obtain ⟨b', off', hA, h⟩ := ho2.rd (by intro e; have := codesI_len; rw [e] at this; simp at this)
    obtain ⟨rfl, rfl⟩ : w1.heap.size = b' ∧ 0 = off' := by simpa using hA
    have := h x (by rw [codesI_len]; exact hx)
    rw [Nat.zero_add] at this
    rw [this, codes_at hx]
  have hz1 : w.heap.size < w1.heap.size := by
    obtain ⟨g, cap, hv, _, hlt⟩ := World.ownsRow.form HO1.out (by omega)
    have : w.heap.size = g := by injection hv with h; injection h with h; injection h
    omega
  have hz2 : w1.heap.size < w2.heap.size := by
    obtain ⟨g, cap, hv, _, hlt⟩ := World.ownsRow.form ho2 (by omega)
    have : w1.heap.size = g := by injection hv with h; injection h with h; injection h
    omega
  clear ho2 hb2 HO1 HB1
  go_wp2
  have HN := Lib.hid (OwnM.new w2)
  have HF0 := Lib.hid (show Below w2.heap.size w2 (w2.alloc (.map #[] 0)) from (Below.refl _ _).alloc (Nat.le_refl _) _)
  generalize w2.alloc (.map #[] 0) = w3 at *
  go_loopw [21] (fun iv wr => ∃ j : Nat, j ≤ 257 ∧ iv = .int .i64 j ∧ OwnM wr w2.heap.size j ∧ Below w2.heap.size w2 wr) (fun iv _ => 258 - (intOf iv).toNat)
  case atStart => exact ⟨0, by omega, rfl, HN.out, HF0.out⟩
  case round =>
    obtain ⟨j, hj, rfl, hmp, hbr⟩ := hrel
    have HMp := Lib.hid hmp
    have HB := Lib.hid hbr
    have hzr := HMp.out.lt
    clear hmp hbr HN HF0
    by_cases hlt : j < 257
    · have c1 : wr.cell? ⟨w.heap.size, j, none⟩ = some (.int .i64 (hL j : Nat)) := (HB.out.cell (p := ⟨w.heap.size, j, none⟩) (by show w.heap.size < _; omega)).trans (HL.out _ (by omega))
      have c2 : wr.cell? ⟨w1.heap.size, j, none⟩ = some (.int .i64 (hC j : Nat)) := (HB.out.cell (p := ⟨w1.heap.size, j, none⟩) (by show w1.heap.size < _; omega)).trans (HC.out _ (by omega))
      go_wp2_with (at_mapUpdate; refine wpList_store _ rfl _ _ _ rfl w2.heap.size j hlt HMp.out rfl rfl rfl ?_; intro w4 hmp4 hg4; have HM4 := Lib.hid hmp4; have HB4 := Lib.hid (HB.out.grown hg4 (Nat.le_of_lt hzr) (fun g e => by cases e; exact Nat.le_refl _)); clear hmp4 hg4)
      go_roundw
      case rel => exact ⟨j + 1, by omega, by go_num, HM4.out, HB4.out⟩
      case measure => simp [intOf]; omega
    · have HMq := Lib.hid (show OwnM wr w2.heap.size 257 from (show j = 257 by omega) ▸ HMp.out)
      clear HMp
      go_wp2
      go_loopw [9, 10, 11, 38] (fun ov lv nv iv wr2 => ∃ (i long n l cc : Nat) (acc : List Nat) (B : Option Addr), i ≤ 8 * m ∧ iv = .int .i64 i ∧ lv = .int .i64 long ∧ nv = .int .i64 n ∧ ov = .slice B l cc ∧ Own .u8 5 wr2 (w2.heap.size + 1) B l cc (nz acc) ∧ steps look ((bitsB ys).take i) ([], 0, 0) = some (acc, long, n) ∧ OwnM wr2 w2.heap.size 257 ∧ Below w2.heap.size w2 wr2 ∧ w2.heap.size + 1 ≤ wr2.heap.size) (fun _ _ _ iv _ => 8 * m + 1 - (intOf iv).toNat)
      case atStart => exact ⟨0, 0, 0, 0, 0, [], none, by omega, rfl, rfl, rfl, rfl, Own.nil _ _ _ _, rfl, HMq.out, HB.out, by omega⟩
      case round =>
        obtain ⟨i, long, n, l, cc, acc, B, hi, rfl, rfl, rfl, rfl, ho, hst, hmp2, hb2, hz3⟩ := hrel
        have HO := Lib.hid ho
        have HS := Lib.hid hst
        have HM2 := Lib.hid hmp2
        have HB3 := Lib.hid hb2
        have hk := Kept.steps Kept.nil (fun x hx => by
          have hx := List.mem_of_mem_take hx
          obtain ⟨k, hk, rfl⟩ := List.getElem_of_mem hx
          have := bitsB_get ys k (by rw [bitsB_length] at hk; exact hk)
          rw [List.getElem?_eq_getElem hk] at this
          injection this with this
          rw [this]; exact bitAt_le _ _) hst
        have hlong : long ≤ 30 := hk.long
        have hn : n < 2 ^ long := hk.lt
        have hn30 : n < 1073741824 := Nat.lt_of_lt_of_le hn (Nat.le_trans (Nat.pow_le_pow_right (by decide) hlong) (by decide))
        have hacc := Lib.hid hk.bytes
        have hlen : acc.length ≤ i := Nat.le_trans hk.len (by simp; omega)
        have hll : l ≤ i := by have := ho.len; rw [nz_length] at this; omega
        clear ho hst hmp2 hb2 hk hn
        by_cases hlt2 : i < 8 * m
        · have hym : i / 8 < ys.length := by rw [HM.out]; omega
          obtain ⟨b, off, rfl, hc⟩ := (HR.out.below (HB2.out.trans (HB3.out.mono (by omega))) (Nat.le_refl _)) (by intro e; have := congrArg List.length e; rw [nz_length, HM.out] at this; simp at this; omega)
          have c1 := hc (i / 8) (by rw [nz_length]; exact hym)
          obtain ⟨y, hy⟩ : ∃ y, y = ys.getD (i / 8) 0 := ⟨_, rfl⟩
          have hyn : nth (nz ys) (i / 8) = (y : Int) := by rw [hy]; unfold nth nz; simp [List.getD_eq_getElem?_getD, List.getElem?_map, List.getElem?_eq_getElem hym]
          rw [hyn] at c1
          have hy8 : y ≤ 255 := HY.out y (by rw [hy, List.getD_eq_getElem?_getD, List.getElem?_eq_getElem hym]; exact List.getElem_mem ..)
          have hbd := Lib.hid (show bitAt ys i = y / 2 ^ (7 - i % 8) % 2 by unfold bitAt; rw [hy])
          obtain ⟨bit, hbit0⟩ : ∃ bit, bit = bitAt ys i := ⟨_, rfl⟩
          have hb1 : bit ≤ 1 := by rw [hbit0]; exact bitAt_le _ _
          have hbit : bits .and .u8 ((y : Int) / 2 ^ (7 - i % 8)) 1 = (bit : Int) := by
            have e : (y : Int) / 2 ^ (7 - i % 8) = ((y / 2 ^ (7 - i % 8) : Nat) : Int) := by simp
            have h : y / 2 ^ (7 - i % 8) ≤ 255 := Nat.le_trans (Nat.div_le_self _ _) hy8
            rw [e, hbit0, hbd.out]
            generalize y / 2 ^ (7 - i % 8) = x at *
            have := bits_mask .u8 8 (by decide) wraps_u8 1 (by decide) (x : Int) (by omega) (by omega)
            simpa using this
          have hsn := steps_snoc (b := bit) HS.out
          rw [hbit0, ← bits_take (by rw [HM.out]; exact hlt2), ← hbit0] at hsn
          have HSN := Lib.hid hsn
          clear hc hyn hy hbd hsn hbit0 HS
          by_cases h30 : long = 30
          · subst h30
            have hbad := Lib.hid (Unh.bad (ys := ys) (i := i + 1) (by rw [HSN.out]; rfl))
            go_wp2_with fail
            go_ret2
            exact ⟨⟨_, _, rfl, hbad.out⟩, HB2.out.trans (HB3.out.mono (by omega))⟩
          · have h29 : long ≤ 29 := by omega
            clear h30
            cases hl : look (long + 1) (n * 2 + bit) with
            | none =>
              have HL2 := Lib.hid hl
              have HST := Lib.hid (show steps look ((bitsB ys).take (i + 1)) ([], 0, 0) = some (acc, long + 1, n * 2 + bit) by
                rw [HSN.out]; unfold step; rw [if_neg (by simp; omega)]; simp only; rw [hl])
              clear hl HSN
              go_wp2_with (at_lookup; refine wpList_miss _ rfl _ _ rfl w2.heap.size (long + 1) (n * 2 + bit) HM2.out rfl (by omega) (by omega) _ _ ?_ ?_ rfl HL2.out ?_; (omega); (omega))
              go_roundw
              case rel => exact ⟨i + 1, long + 1, n * 2 + bit, l, cc, acc, B, by omega, by go_num, by go_num, by first | go_num | (congr 1; omega), rfl, HO.out, HST.out, HM2.out, HB3.out, hz3⟩
              case measure => simp [intOf]; omega
            | some s =>
              have HL2 := Lib.hid hl
              by_cases h256 : s = 256
              · subst h256
                have hbad := Lib.hid (Unh.bad (ys := ys) (i := i + 1) (by rw [HSN.out]; unfold step; rw [if_neg (by simp; omega)]; simp only; rw [hl]; rfl))
                clear hl HSN
                go_wp2_with (at_lookup; refine wpList_hit _ rfl _ _ rfl w2.heap.size (long + 1) (n * 2 + bit) 256 HM2.out rfl (by omega) (by omega) _ _ ?_ ?_ rfl HL2.out ?_; (omega); (omega))
                go_ret2
                exact ⟨⟨_, _, rfl, hbad.out⟩, HB2.out.trans (HB3.out.mono (by omega))⟩
              · have hs8 : s ≤ 255 := by have := (look_hit hl).1; omega
                have HST := Lib.hid (show steps look ((bitsB ys).take (i + 1)) ([], 0, 0) = some (acc ++ [s], 0, 0) by
                  rw [HSN.out]; unfold step; rw [if_neg (by simp; omega)]; simp only; rw [hl]; simp only; rw [if_neg h256])
                have hq : ((s : Int) == 256) = false := by rw [beq_eq_false_iff_ne]; omega
                clear hl HSN h256
                go_wp2_with (first | (at_lookup; refine wpList_hit _ rfl _ _ rfl w2.heap.size (long + 1) (n * 2 + bit) s HM2.out rfl (by omega) (by omega) _ _ ?_ ?_ rfl HL2.out ?_; (omega); (omega)) | (at_builtin; refine wpList_app _ rfl _ _ elem8 rfl (w2.heap.size + 1) B l cc (nz acc) rfl (HO.out.alloc _) _ 1 1 [(s : Int)] rfl rfl (Rd.one .u8 wr (s : Int) 5) (by omega) (by omega) (by simp; omega) ?_; intro A1 l1 c1 w4 hl1 hown1 hg1 hat1))
                go_roundw
                case rel =>
                  refine ⟨i + 1, 0, 0, l1, c1, acc ++ [s], A1, by omega, by go_num, rfl, rfl, rfl, ?_, HST.out, ?_, HB3.out.trans (below_app ((Below.refl _ _).alloc (by omega) _) (HO.out.alloc _) hg1 (by simp; omega) (by omega)), by have := hg1.size; simp at this; omega⟩
                  · rw [nz_append]; exact hown1
                  · refine (HM2.out.keep (Below.heap_alloc wr (.cells #[.int .u8 (s : Int)] 5) _ HM2.out.lt)).keep (hg1.block _ (by have := HM2.out.lt; simp; omega) (fun e => ?_))
                    have := (HO.out.block _ e.symm).1
                    omega
                case measure => simp [intOf]; omega
        · have e8 : i = 8 * m := by omega
          have HST := Lib.hid (show steps look (bitsB ys) ([], 0, 0) = some (acc, long, n) by
            have := HS.out; rwa [List.take_of_length_le (by rw [bitsB_length, HM.out, e8]; exact Nat.le_refl _)] at this)
          have hconv : ∀ q, (convert 23 9 (.slice B l cc)).run Tryd.prog (wr.drewN q) = .ok (.string (strOfNums (nz acc))) (wr.drewN q) := fun q => conv_rd (A := B) (n := l) (c := cc) (HO.out.drewN q).rd HO.out.len
          have hbq := Lib.hid (HB2.out.trans (HB3.out.mono (by omega)))
          have HO2 := Lib.hid HO.out
          clear e8 HS
          by_cases h8 : long < 8
          · have hk8 : decide ((long : Int) < 8) = true := by simp; omega
            have hp7 : (2 : Int) ^ long ≤ 128 := by
              have : 2 ^ long ≤ 2 ^ 7 := Nat.pow_le_pow_right (by decide) (by omega)
              have e : ((2 ^ long : Nat) : Int) = (2 : Int) ^ long := by simp
              omega
            have hp0 : 0 ≤ (2 : Int) ^ long := Int.le_of_lt (Int.pow_pos (by decide))
            have Hfin := Lib.hid (show ((n : Int) == 2 ^ long - 1) = decide (long < 8 ∧ n = 2 ^ long - 1) by
              have hp := Nat.two_pow_pos long
              have e : ((2 ^ long : Nat) : Int) = (2 : Int) ^ long := by simp
              rw [← e, Bool.eq_iff_iff]
              simp only [beq_iff_eq, decide_eq_true_eq]
              omega)
            go_wp2
            go_quiet (fail)
            go_wp2
            go_ret2
            exact ⟨⟨_, _, rfl, .inr ⟨acc, long, n, HST.out, rfl, Hfin.out⟩⟩, below_drewN hbq.out _⟩
          · have hk8 : decide ((long : Int) < 8) = false := by simp; omega
            go_wp2
            go_quiet (fail)
            go_wp2
            go_ret2
            refine ⟨⟨_, _, rfl, .inr ⟨acc, long, n, HST.out, rfl, ?_⟩⟩, below_drewN hbq.out _⟩
            simp; omega
end Go.Proofs.YthnaobmepfkkpaaDoor
