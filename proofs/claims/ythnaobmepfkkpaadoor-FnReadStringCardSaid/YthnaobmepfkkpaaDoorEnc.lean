/- Walks of what writes integers with a prefix: Integer (the reference's), appendPrefixedInt, AppendInt; same. -/
import Derived.Test.YthnaobmepfkkpaaDoorRead2
import Derived.Test.YthnaobmepfkkpaaDoorNum3
import Derived.Laws.BytesArg
import Derived.Lib.BufferRead
namespace Go.Proofs.YthnaobmepfkkpaaDoor
open Go Go.RowKit

/-- A slice of one number, just made. -/
theorem Own.one (k : IntKind) (e : TypeId) (w : World) (x : Int) (base : Nat) (hb : base ≤ w.heap.size) : Own k e (w.alloc (.cells #[.int k x] e)) base (some ⟨w.heap.size, 0, none⟩) 1 1 [x] :=
  ⟨rfl, .inr ⟨w.heap.size, 1, #[.int k x], rfl, hb, heap_alloc_new w _, Nat.le_refl _, by unfold maxLen; omega, rfl, rfl⟩⟩

/-- What a writer of bytes leaves: a slice of the call's own that holds xs. -/
def Wrote (w : World) (B base : Nat) (xs : List Int) (e : Ending) (w' : World) : Prop :=
  ∃ A n c, e = .returned (.slice A n c) ∧ Own .u8 5 w' base A n c xs ∧ Below B w w'

theorem or_first {f n : Int} {k : Nat} (h0 : 0 ≤ f) (h1 : f ≤ 255) (hk : f % 2 ^ k = 0) (h8 : k ≤ 8) (hn0 : 0 ≤ n) (hn : n ≤ most k) : bits .or .u8 f n = f + n := by
  have hm : most k < 2 ^ k := by unfold most; omega
  have h9 : (2 : Int) ^ k ≤ 256 := by
    rcases (show k = 0 ∨ k = 1 ∨ k = 2 ∨ k = 3 ∨ k = 4 ∨ k = 5 ∨ k = 6 ∨ k = 7 ∨ k = 8 by omega) with rfl | rfl | rfl | rfl | rfl | rfl | rfl | rfl | rfl <;> decide
  exact bits_join .u8 8 (by decide) wraps_u8 k f n h0 hk (by omega) hn0 (by omega) (by omega)
theorem or_top {n : Int} (h0 : 0 ≤ n) (h1 : n < 128) : bits .or .u8 128 n = 128 + n :=
  bits_join .u8 8 (by decide) wraps_u8 7 128 n (by decide) (by decide) (by decide) h0 (by omega) (by omega)

set_option maxHeartbeats 400000 in
theorem integer_any {w : World} {f n : Int} {k : Nat} (h0 : 0 ≤ f) (h1 : f ≤ 255) (hk : f % 2 ^ k = 0) (hk1 : 1 ≤ k) (h8 : k ≤ 8) (hn0 : 0 ≤ n) (hn : n ≤ 4611686018427387903) :
    Calls Tryd.prog 17 #[.int .u8 f, .int .i64 k, .int .u64 n] w (Wrote w w.heap.size w.heap.size (pint f k n)) := by
  have hm := most_u64 h8
  obtain ⟨hb2, hb3⟩ := most_cases hk1 h8
  by_cases hlt : n < most k
  · have hor := or_first h0 h1 hk h8 hn0 (by omega)
    have he := Lib.hid (show pint f k n = [f + n] by unfold pint; rw [if_pos hlt])
    clear hk
    go_enter Tryd.func17, Tryd.ntmps17
    go_wp2
    go_ret
    rw [he.out]
    exact ⟨_, _, _, rfl, Own.one _ _ _ _ _ (Nat.le_refl _), (Below.refl _ _).alloc (Nat.le_refl _) _⟩
  · have hor := or_first h0 h1 hk h8 (by omega) (Int.le_refl (most k))
    have he := Lib.hid (show pint f k n = [f + most k] ++ pdig 8 (n - most k) by unfold pint; rw [if_neg hlt]; rfl)
    clear hk
    go_enter Tryd.func17, Tryd.ntmps17
    go_wp2
    clear hm
    go_loopw [2, 8] (fun v s wr => ∃ (fu : Nat) (m : Int) (ys : List Int) (A : Option Addr) (l c : Nat), v = .int .u64 m ∧ s = .slice A l c ∧ 0 ≤ m ∧ m ≤ 4611686018427387903 ∧ m < 128 ^ (fu + 1) ∧ ys.length + fu = 9 ∧ [f + most k] ++ pdig 8 (n - most k) = ys ++ pdig fu m ∧ Own .u8 5 wr w.heap.size A l c ys ∧ Below w.heap.size w wr) (fun v _ _ => (intOf v).toNat)
    case atStart => exact ⟨8, n - most k, [f + most k], _, _, _, rfl, rfl, by omega, by omega, by omega, rfl, rfl, Own.one _ _ _ _ _ (Nat.le_refl _), (Below.refl _ _).alloc (Nat.le_refl _) _⟩
    case round =>
      obtain ⟨fu, m, ys, A, l, c, rfl, rfl, hm0, hm1, hm2, hlen, hys, hown, hbel⟩ := hrel
      have Hl := Lib.hid hlen
      have Hy := Lib.hid hys
      have H2 := Lib.hid hm2
      have hl := hown.len
      have hl10 : l ≤ 10 := by omega
      have HO := Lib.hid hown
      have HB := Lib.hid hbel
      have hz := hbel.size
      clear hlen hys hm2 hl hown hbel
      by_cases h128 : 128 ≤ m
      · obtain ⟨fu, rfl⟩ : ∃ g, fu = g + 1 := by
          cases fu with
          | zero => have := H2.out; omega
          | succ g => exact ⟨g, rfl⟩
        go_wp2_with (at_builtin; refine wpList_app _ rfl _ _ elem8 rfl w.heap.size A l c ys rfl (HO.out.alloc _) _ 1 1 _ rfl rfl (Rd.one .u8 wr _ 5) (by omega) (by omega) (by simp; omega) ?_; intro A' l' c' w' hl' hown' hg hat)
        have hb' := below_app (HB.out.alloc hz _) (HO.out.alloc _) hg (by simp; omega) (Nat.le_refl _)
        go_roundw
        case rel =>
          refine ⟨fu, m / 128, ys ++ [m % 128 + 128], A', l', c', rfl, rfl, by omega, by omega, ?_, ?_, ?_, hown', hb'⟩
          · have := H2.out
            rw [Int.pow_succ] at this
            generalize (128 : Int) ^ (fu + 1) = p at *
            omega
          · have := Hl.out; simp; omega
          · rw [Hy.out, pdig_more (by omega), List.append_assoc]; rfl
        case measure => simp [intOf]; omega
      · go_wp2_with (at_builtin; refine wpList_app _ rfl _ _ elem8 rfl w.heap.size A l c ys rfl (HO.out.alloc _) _ 1 1 _ rfl rfl (Rd.one .u8 wr _ 5) (by omega) (by omega) (by simp; omega) ?_; intro A' l' c' w' hl' hown' hg hat)
        have hb' := below_app (HB.out.alloc hz _) (HO.out.alloc _) hg (by simp; omega) (Nat.le_refl _)
        go_ret
        rw [he.out, Hy.out, pdig_last (by omega)]
        exact ⟨A', l', c', rfl, hown', hb'⟩
set_option maxHeartbeats 400000 in
theorem api_any {w : World} {f n : Int} {k l c base : Nat} {A : Option Addr} {zs : List Int} (hown : Own .u8 5 w base A l c zs) (hbs : base ≤ w.heap.size) (hlm : l ≤ 70368744177664)
    (h0 : 0 ≤ f) (h1 : f ≤ 255) (hk : f % 2 ^ k = 0) (hk1 : 1 ≤ k) (h8 : k ≤ 8) (hn0 : 0 ≤ n) (hn : n ≤ 4611686018427387903) :
    Calls Tryd.prog 26 #[.slice A l c, .int .u8 f, .int .u8 k, .int .i64 n] w (Wrote w base base (zs ++ pint f k n)) := by
  have hm := most_u64 h8
  obtain ⟨hb2, hb3⟩ := most_cases hk1 h8
  have HO := Lib.hid hown
  have hll := Lib.hid hown.len
  clear hown
  by_cases hlt : n < most k
  · have hor := or_first h0 h1 hk h8 hn0 (by omega)
    have he := Lib.hid (show pint f k n = [f + n] by unfold pint; rw [if_pos hlt])
    clear hk
    go_enter Tryd.func26, Tryd.ntmps26
    go_wp2_with (at_builtin; refine wpList_app _ rfl _ _ elem8 rfl base A l c zs rfl (HO.out.alloc _) _ 1 1 _ rfl rfl (Rd.one .u8 w _ 5) (by omega) (by omega) (by simp; omega) ?_; intro A1 l1 c1 w1 hl1 hown1 hg1 hat1)
    have hb' := below_app ((Below.refl base w).alloc hbs _) (HO.out.alloc _) hg1 (by simp; omega) (Nat.le_refl _)
    go_ret
    rw [he.out]
    exact ⟨A1, l1, c1, rfl, hown1, hb'⟩
  · have hor := or_first h0 h1 hk h8 (by omega) (Int.le_refl (most k))
    have he := Lib.hid (show zs ++ pint f k n = (zs ++ [f + most k]) ++ pdig 8 (n - most k) by unfold pint; rw [if_neg hlt, List.append_assoc]; rfl)
    clear hk
    go_enter Tryd.func26, Tryd.ntmps26
    go_wp2_with (at_builtin; refine wpList_app _ rfl _ _ elem8 rfl base A l c zs rfl (HO.out.alloc _) _ 1 1 _ rfl rfl (Rd.one .u8 w _ 5) (by omega) (by omega) (by simp; omega) ?_; intro A1 l1 c1 w1 hl1 hown1 hg1 hat1)
    have hb' := below_app ((Below.refl base w).alloc hbs _) (HO.out.alloc _) hg1 (by simp; omega) (Nat.le_refl _)
    clear hm
    go_loopw [0, 9] (fun s v wr => ∃ (fu : Nat) (m : Int) (ys : List Int) (A : Option Addr) (l c : Nat), v = .int .u64 m ∧ s = .slice A l c ∧ 0 ≤ m ∧ m ≤ 4611686018427387903 ∧ m < 128 ^ (fu + 1) ∧ ys.length + fu = zs.length + 9 ∧ (zs ++ [f + most k]) ++ pdig 8 (n - most k) = ys ++ pdig fu m ∧ Own .u8 5 wr base A l c ys ∧ Below base w wr) (fun _ v _ => (intOf v).toNat)
    case atStart => exact ⟨8, n - most k, zs ++ [f + most k], _, _, _, rfl, rfl, by omega, by omega, by omega, by simp, rfl, hown1, hb'⟩
    case round =>
      obtain ⟨fu, m, ys, A, l, c, rfl, rfl, hm0, hm1, hm2, hlen, hys, hown, hbel⟩ := hrel
      have Hl := Lib.hid hlen
      have Hy := Lib.hid hys
      have H2 := Lib.hid hm2
      have hl := hown.len
      have hl10 : l ≤ 70368744177664 + 10 := by have := hll.out; omega
      have HO := Lib.hid hown
      have HB := Lib.hid hbel
      have hz : base ≤ wr.heap.size := by have := hbel.size; omega
      clear hlen hys hm2 hl hown hbel hown1 hb' hg1
      by_cases h128 : 128 ≤ m
      · obtain ⟨fu, rfl⟩ : ∃ g, fu = g + 1 := by
          cases fu with
          | zero => have := H2.out; omega
          | succ g => exact ⟨g, rfl⟩
        have hor2 := or_top (n := m % 128) (by omega) (by omega)
        have h127 : bits .and .u64 m 127 = m % 128 := bits_mask .u64 63 (by decide) (fun n a c => IntWalk.u64_in n (by omega)) 7 (by decide) m hm0 (by omega)
        have h256 : m % 128 % 256 = m % 128 := by omega
        go_wp2_with (at_builtin; refine wpList_app _ rfl _ _ elem8 rfl base A l c ys rfl (HO.out.alloc _) _ 1 1 _ rfl rfl (Rd.one .u8 wr _ 5) (by omega) (by omega) (by simp; omega) ?_; intro A2 l2 c2 w2 hl2 hown2 hg2 hat2)
        have hb' := below_app (HB.out.alloc hz _) (HO.out.alloc _) hg2 (by simp; omega) (Nat.le_refl _)
        go_roundw
        case rel =>
          refine ⟨fu, m / 128, ys ++ [m % 128 + 128], A2, l2, c2, rfl, rfl, by omega, by omega, ?_, ?_, ?_, by rw [Int.add_comm (m % 128)]; exact hown2, hb'⟩
          · have := H2.out
            rw [Int.pow_succ] at this
            generalize (128 : Int) ^ (fu + 1) = p at *
            omega
          · have := Hl.out; simp; omega
          · rw [Hy.out, pdig_more (by omega), List.append_assoc]; rfl
        case measure => simp [intOf]; omega
      · go_wp2_with (at_builtin; refine wpList_app _ rfl _ _ elem8 rfl base A l c ys rfl (HO.out.alloc _) _ 1 1 _ rfl rfl (Rd.one .u8 wr _ 5) (by omega) (by omega) (by simp; omega) ?_; intro A2 l2 c2 w2 hl2 hown2 hg2 hat2)
        have hb' := below_app (HB.out.alloc hz _) (HO.out.alloc _) hg2 (by simp; omega) (Nat.le_refl _)
        go_ret
        rw [he.out, Hy.out, pdig_last (by omega)]
        exact ⟨A2, l2, c2, rfl, hown2, hb'⟩

/-- string(b) of bytes that read as a list. -/
theorem conv_rd {w : World} {A : Option Addr} {n c : Nat} {xs : List Int} (hr : Rd .u8 w A xs) (hn : xs.length = n) :
    (convert 23 9 (.slice A n c)).run Tryd.prog w = .ok (.string (strOfNums xs)) w := by
  by_cases hx : xs = []
  · subst hx
    obtain rfl : n = 0 := by simpa using hn.symm
    cases A with
    | none => exact Lib.run_convert_nil_bytes (P := Tryd.prog) w 23 9 5 c Tryd.underlying23 Tryd.underlying5 Tryd.underlying9
    | some a =>
      rw [run_convert_bytes_string (P := Tryd.prog) w 23 9 5 (some a) 0 c Tryd.underlying23 Tryd.underlying5 Tryd.underlying9,
        run_bytesToString w a 0 c [] (by simp [loadCells, loadCellsFrom])]
      rfl
  · obtain ⟨b, off, rfl, hc⟩ := hr hx
    exact run_convert_bytes_arg (P := Tryd.prog) w 23 5 Tryd.underlying23 Tryd.underlying5 b off n c xs hn (fun i hi => hc i (by omega)) 9 Tryd.underlying9
theorem same_eq {w : World} {A B : Option Addr} {n m c d : Nat} {xs : List Int} (hA : Rd .u8 w A xs) (hn : xs.length = n) (hB : Rd .u8 w B xs) (hm : xs.length = m) :
    Calls Tryd.prog 9 #[.slice A n c, .slice B m d] w fun e w' => e = .returned (.bool true) ∧ w = w' := by
  have c1 := conv_rd (c := c) hA hn
  have c2 := conv_rd (c := d) hB hm
  clear hA hB hn hm
  go_enter Tryd.func9, Tryd.ntmps9
  go_wp2
  go_ret
  exact ⟨rfl, rfl⟩
end Go.Proofs.YthnaobmepfkkpaaDoor
