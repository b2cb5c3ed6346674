/- The walk of the reference's Varint. -/
import Derived.Test.YtfimelphdmmiaaaDoorVar1
namespace Go.Proofs.YtfimelphdmmiaaaDoor
open Go Go.RowKit

theorem or_high {x : Int} {k : Int} (h0 : 0 ≤ x) (h1 : x < 64) (hk : k = 0 ∨ k = 64 ∨ k = 128 ∨ k = 192) : bits .or .u8 x k = x + k := by
  have h : ∀ n : Fin 64, bits .or .u8 ((n.val : Nat) : Int) 0 = ((n.val : Nat) : Int) + 0 ∧ bits .or .u8 ((n.val : Nat) : Int) 64 = ((n.val : Nat) : Int) + 64 ∧ bits .or .u8 ((n.val : Nat) : Int) 128 = ((n.val : Nat) : Int) + 128 ∧ bits .or .u8 ((n.val : Nat) : Int) 192 = ((n.val : Nat) : Int) + 192 := by decide +kernel
  have := h ⟨x.toNat, by omega⟩
  have e : ((x.toNat : Nat) : Int) = x := Int.toNat_of_nonneg h0
  simp only [e] at this
  rcases hk with rfl | rfl | rfl | rfl
  · exact this.1
  · exact this.2.1
  · exact this.2.2.1
  · exact this.2.2.2
/-- Does the class go on from j? -/
theorem vk_more {n : Int} {least j : Nat} (hj : j < vk n least) (h : ¬ j < least) : vtop j ≤ n := by
  have hv : j < vcls n := by unfold vk at hj; omega
  have h3 : j = 0 ∨ j = 1 ∨ j = 2 := by have := vcls_le n; omega
  unfold vcls at hv
  rcases h3 with rfl | rfl | rfl <;> simp only [vtop] <;> (split at hv <;> (try split at hv) <;> (try split at hv) <;> omega)
theorem vk_stop {n : Int} {least : Nat} (hl : least ≤ 3) (hn : n ≤ 4611686018427387903) : n < vtop (vk n least) ∧ ¬ vk n least < least := ⟨vk_top least hl hn, by unfold vk; omega⟩

set_option maxHeartbeats 1000000 in
theorem varint_any {w : World} {n : Int} {least : Nat} (h0 : 0 ≤ n) (h1 : n ≤ 4611686018427387903) (hl : least ≤ 3) :
    Calls Tryd.prog 25 #[.int .u64 n, .int .i64 least] w (Wrote w w.heap.size w.heap.size (venc (vk n least) n)) := by
  obtain ⟨hs1, hs2⟩ := vk_stop (n := n) hl h1
  have hK3 := vk_le (n := n) hl
  have hmore := fun (j : Nat) => vk_more (n := n) (least := least) (j := j)
  generalize vk n least = K at *
  have HM := Lib.hid hmore
  have HS := Lib.hid hs1
  clear hmore hs1
  go_enter Tryd.func25, Tryd.ntmps25
  go_wp2
  go_loop [5] (fun v => ∃ j : Nat, j ≤ K ∧ v = .int .i64 j) (fun v => K + 1 - (intOf v).toNat)
  case atStart => exact ⟨0, Nat.zero_le _, rfl⟩
  case round =>
    obtain ⟨j, hj, rfl⟩ := hrel
    by_cases hjK : j < K
    · by_cases hjl : j < least
      · have hj3 : (j : Int) < 3 := by omega
        go_wp2
        go_round
        case rel => exact ⟨j + 1, by omega, by go_num⟩
        case measure => simp [intOf] <;> omega
      · have hv := HM.out j hjK hjl
        have hlj : least ≤ j := by omega
        rcases (show j = 0 ∨ j = 1 ∨ j = 2 by omega) with rfl | rfl | rfl
        · have hv : (64 : Int) ≤ n := hv
          go_wp2
          go_round
          case rel => exact ⟨1, by omega, by go_num⟩
          case measure => simp [intOf] <;> omega
        · have hv : (16384 : Int) ≤ n := hv
          go_wp2
          go_round
          case rel => exact ⟨2, by omega, by go_num⟩
          case measure => simp [intOf] <;> omega
        · have hv : (1073741824 : Int) ≤ n := hv
          go_wp2
          go_round
          case rel => exact ⟨3, by omega, by go_num⟩
          case measure => simp [intOf] <;> omega
    · obtain rfl : j = K := by omega
      rcases (show j = 0 ∨ j = 1 ∨ j = 2 ∨ j = 3 by omega) with rfl | rfl | rfl | rfl
      · -- 2^0 bytes
        have hs : n < 64 := HS.out
        have hle : least ≤ 0 := by omega
        have hs' : ¬ 64 ≤ n := by omega
        clear HM hK3 hs2 hjK
        go_wp2
        go_loopw [6, 7] (fun s v wr => ∃ (i : Nat) (ys : List Int) (A : Option Addr) (l c : Nat), i ≤ 1 ∧ v = .int .i64 ((i : Int) - 1) ∧ s = .slice A l c ∧ l + i = 1 ∧ vlow n 1 = ys ++ vlow n i ∧ Own .u8 5 wr w.heap.size A l c ys ∧ Below w.heap.size w wr) (fun _ v _ => (intOf v + 1).toNat)
        case atStart => exact ⟨1, [], none, 0, 0, Nat.le_refl _, rfl, rfl, rfl, rfl, Own.nil _ _ _ _, Below.refl _ _⟩
        case round =>
          obtain ⟨i, ys, A, l, c, hi, rfl, rfl, hli, hys, hown, hbel⟩ := hrel
          have Hys := Lib.hid hys
          have HO := Lib.hid hown
          have HB := Lib.hid hbel
          have HL := Lib.hid hli
          have hz := hbel.size
          have hl8 : l ≤ 1 := by omega
          clear hys hown hbel hli
          cases i with
          | succ i =>
            rw [show (((i + 1 : Nat) : Int) - 1) = (i : Int) by omega]
            have hnb := Lib.hid (show n / 2 ^ (8 * i) % 256 = nb n i by unfold nb; rw [Int.pow_mul]; rfl)
            go_wp2_with (at_builtin; refine wpList_app _ rfl _ _ elem8 rfl w.heap.size A l c ys rfl (HO.out.alloc _) _ 1 1 _ rfl rfl (Rd.one .u8 wr _ 5) (by omega) (by omega) (by simp; omega) ?_; intro A' l' c' w' hl' hown' hg hat)
            have hb' := below_app (HB.out.alloc hz _) (HO.out.alloc _) hg (by simp; omega) (Nat.le_refl _)
            have hll := hl'.out
            have hLL := HL.out
            go_roundw
            case rel => exact ⟨i, ys ++ [nb n i], A', l', c', by omega, rfl, rfl, by omega, by rw [Hys.out, List.append_assoc]; rfl, by rw [← hnb.out]; exact hown', hb'⟩
            case measure => simp [intOf] <;> omega
          | zero =>
            have hll : l = 1 := by have := HL.out; omega
            have hys : vlow n 1 = ys := by have := Hys.out; simpa [vlow] using this
            have hown := HO.out
            rw [← hys] at hown
            obtain ⟨g, hA, hbg, hc, hf, hput⟩ := hown.head
            subst hA hll
            have hlen := Lib.hid (hown.len)
            have hput := Lib.hid hput
            have HB2 := Lib.hid fun v => HB.out.setCell (p := ⟨g, 0, none⟩) hbg v
            obtain ⟨hb0, hb1⟩ := nb_bound n 0
            have hhi : nb n 0 < 64 := by unfold nb; simp only [Int.reducePow]; omega
            have hor : bits .or .u8 (nb n 0) 0 = nb n 0 + 0 := or_high hb0 hhi (by decide)
            have hfin := Lib.hid (show venc 0 n = (nb n 0 + 64 * ((0 : Nat) : Int)) :: vlow n 0 from rfl)
            clear hown hys Hys HO HB HL
            go_wp2
            go_ret
            rw [hfin.out]
            exact ⟨some ⟨g, 0, none⟩, 1, c, rfl, by simpa using hput.out (nb n 0), HB2.out _⟩
      · -- 2^1 bytes
        have hs : n < 16384 := HS.out
        have hle : least ≤ 1 := by omega
        have hs' : ¬ 16384 ≤ n := by omega
        clear HM hK3 hs2 hjK
        go_wp2
        go_loopw [6, 7] (fun s v wr => ∃ (i : Nat) (ys : List Int) (A : Option Addr) (l c : Nat), i ≤ 2 ∧ v = .int .i64 ((i : Int) - 1) ∧ s = .slice A l c ∧ l + i = 2 ∧ vlow n 2 = ys ++ vlow n i ∧ Own .u8 5 wr w.heap.size A l c ys ∧ Below w.heap.size w wr) (fun _ v _ => (intOf v + 1).toNat)
        case atStart => exact ⟨2, [], none, 0, 0, Nat.le_refl _, rfl, rfl, rfl, rfl, Own.nil _ _ _ _, Below.refl _ _⟩
        case round =>
          obtain ⟨i, ys, A, l, c, hi, rfl, rfl, hli, hys, hown, hbel⟩ := hrel
          have Hys := Lib.hid hys
          have HO := Lib.hid hown
          have HB := Lib.hid hbel
          have HL := Lib.hid hli
          have hz := hbel.size
          have hl8 : l ≤ 2 := by omega
          clear hys hown hbel hli
          cases i with
          | succ i =>
            rw [show (((i + 1 : Nat) : Int) - 1) = (i : Int) by omega]
            have hnb := Lib.hid (show n / 2 ^ (8 * i) % 256 = nb n i by unfold nb; rw [Int.pow_mul]; rfl)
            go_wp2_with (at_builtin; refine wpList_app _ rfl _ _ elem8 rfl w.heap.size A l c ys rfl (HO.out.alloc _) _ 1 1 _ rfl rfl (Rd.one .u8 wr _ 5) (by omega) (by omega) (by simp; omega) ?_; intro A' l' c' w' hl' hown' hg hat)
            have hb' := below_app (HB.out.alloc hz _) (HO.out.alloc _) hg (by simp; omega) (Nat.le_refl _)
            have hll := hl'.out
            have hLL := HL.out
            go_roundw
            case rel => exact ⟨i, ys ++ [nb n i], A', l', c', by omega, rfl, rfl, by omega, by rw [Hys.out, List.append_assoc]; rfl, by rw [← hnb.out]; exact hown', hb'⟩
            case measure => simp [intOf] <;> omega
          | zero =>
            have hll : l = 2 := by have := HL.out; omega
            have hys : vlow n 2 = ys := by have := Hys.out; simpa [vlow] using this
            have hown := HO.out
            rw [← hys] at hown
            obtain ⟨g, hA, hbg, hc, hf, hput⟩ := hown.head
            subst hA hll
            have hlen := Lib.hid (hown.len)
            have hput := Lib.hid hput
            have HB2 := Lib.hid fun v => HB.out.setCell (p := ⟨g, 0, none⟩) hbg v
            obtain ⟨hb0, hb1⟩ := nb_bound n 1
            have hhi : nb n 1 < 64 := by unfold nb; simp only [Int.reducePow]; omega
            have hor : bits .or .u8 (nb n 1) 64 = nb n 1 + 64 := or_high hb0 hhi (by decide)
            have hfin := Lib.hid (show venc 1 n = (nb n 1 + 64 * ((1 : Nat) : Int)) :: vlow n 1 from rfl)
            clear hown hys Hys HO HB HL
            go_wp2
            go_ret
            rw [hfin.out]
            exact ⟨some ⟨g, 0, none⟩, 2, c, rfl, hput.out _, HB2.out _⟩
      · -- 2^2 bytes
        have hs : n < 1073741824 := HS.out
        have hle : least ≤ 2 := by omega
        have hs' : ¬ 1073741824 ≤ n := by omega
        clear HM hK3 hs2 hjK
        go_wp2
        go_loopw [6, 7] (fun s v wr => ∃ (i : Nat) (ys : List Int) (A : Option Addr) (l c : Nat), i ≤ 4 ∧ v = .int .i64 ((i : Int) - 1) ∧ s = .slice A l c ∧ l + i = 4 ∧ vlow n 4 = ys ++ vlow n i ∧ Own .u8 5 wr w.heap.size A l c ys ∧ Below w.heap.size w wr) (fun _ v _ => (intOf v + 1).toNat)
        case atStart => exact ⟨4, [], none, 0, 0, Nat.le_refl _, rfl, rfl, rfl, rfl, Own.nil _ _ _ _, Below.refl _ _⟩
        case round =>
          obtain ⟨i, ys, A, l, c, hi, rfl, rfl, hli, hys, hown, hbel⟩ := hrel
          have Hys := Lib.hid hys
          have HO := Lib.hid hown
          have HB := Lib.hid hbel
          have HL := Lib.hid hli
          have hz := hbel.size
          have hl8 : l ≤ 4 := by omega
          clear hys hown hbel hli
          cases i with
          | succ i =>
            rw [show (((i + 1 : Nat) : Int) - 1) = (i : Int) by omega]
            have hnb := Lib.hid (show n / 2 ^ (8 * i) % 256 = nb n i by unfold nb; rw [Int.pow_mul]; rfl)
            go_wp2_with (at_builtin; refine wpList_app _ rfl _ _ elem8 rfl w.heap.size A l c ys rfl (HO.out.alloc _) _ 1 1 _ rfl rfl (Rd.one .u8 wr _ 5) (by omega) (by omega) (by simp; omega) ?_; intro A' l' c' w' hl' hown' hg hat)
            have hb' := below_app (HB.out.alloc hz _) (HO.out.alloc _) hg (by simp; omega) (Nat.le_refl _)
            have hll := hl'.out
            have hLL := HL.out
            go_roundw
            case rel => exact ⟨i, ys ++ [nb n i], A', l', c', by omega, rfl, rfl, by omega, by rw [Hys.out, List.append_assoc]; rfl, by rw [← hnb.out]; exact hown', hb'⟩
            case measure => simp [intOf] <;> omega
          | zero =>
            have hll : l = 4 := by have := HL.out; omega
            have hys : vlow n 4 = ys := by have := Hys.out; simpa [vlow] using this
            have hown := HO.out
            rw [← hys] at hown
            obtain ⟨g, hA, hbg, hc, hf, hput⟩ := hown.head
            subst hA hll
            have hlen := Lib.hid (hown.len)
            have hput := Lib.hid hput
            have HB2 := Lib.hid fun v => HB.out.setCell (p := ⟨g, 0, none⟩) hbg v
            obtain ⟨hb0, hb1⟩ := nb_bound n 3
            have hhi : nb n 3 < 64 := by unfold nb; simp only [Int.reducePow]; omega
            have hor : bits .or .u8 (nb n 3) 128 = nb n 3 + 128 := or_high hb0 hhi (by decide)
            have hfin := Lib.hid (show venc 2 n = (nb n 3 + 64 * ((2 : Nat) : Int)) :: vlow n 3 from rfl)
            clear hown hys Hys HO HB HL
            go_wp2
            go_ret
            rw [hfin.out]
            exact ⟨some ⟨g, 0, none⟩, 4, c, rfl, hput.out _, HB2.out _⟩
      · -- 2^3 bytes
        have hs : n < 4611686018427387904 := HS.out
        have hle : least ≤ 3 := by omega
        clear HM hK3 hs2 hjK
        go_wp2
        go_loopw [6, 7] (fun s v wr => ∃ (i : Nat) (ys : List Int) (A : Option Addr) (l c : Nat), i ≤ 8 ∧ v = .int .i64 ((i : Int) - 1) ∧ s = .slice A l c ∧ l + i = 8 ∧ vlow n 8 = ys ++ vlow n i ∧ Own .u8 5 wr w.heap.size A l c ys ∧ Below w.heap.size w wr) (fun _ v _ => (intOf v + 1).toNat)
        case atStart => exact ⟨8, [], none, 0, 0, Nat.le_refl _, rfl, rfl, rfl, rfl, Own.nil _ _ _ _, Below.refl _ _⟩
        case round =>
          obtain ⟨i, ys, A, l, c, hi, rfl, rfl, hli, hys, hown, hbel⟩ := hrel
          have Hys := Lib.hid hys
          have HO := Lib.hid hown
          have HB := Lib.hid hbel
          have HL := Lib.hid hli
          have hz := hbel.size
          have hl8 : l ≤ 8 := by omega
          clear hys hown hbel hli
          cases i with
          | succ i =>
            rw [show (((i + 1 : Nat) : Int) - 1) = (i : Int) by omega]
            have hnb := Lib.hid (show n / 2 ^ (8 * i) % 256 = nb n i by unfold nb; rw [Int.pow_mul]; rfl)
            go_wp2_with (at_builtin; refine wpList_app _ rfl _ _ elem8 rfl w.heap.size A l c ys rfl (HO.out.alloc _) _ 1 1 _ rfl rfl (Rd.one .u8 wr _ 5) (by omega) (by omega) (by simp; omega) ?_; intro A' l' c' w' hl' hown' hg hat)
            have hb' := below_app (HB.out.alloc hz _) (HO.out.alloc _) hg (by simp; omega) (Nat.le_refl _)
            have hll := hl'.out
            have hLL := HL.out
            go_roundw
            case rel => exact ⟨i, ys ++ [nb n i], A', l', c', by omega, rfl, rfl, by omega, by rw [Hys.out, List.append_assoc]; rfl, by rw [← hnb.out]; exact hown', hb'⟩
            case measure => simp [intOf] <;> omega
          | zero =>
            have hll : l = 8 := by have := HL.out; omega
            have hys : vlow n 8 = ys := by have := Hys.out; simpa [vlow] using this
            have hown := HO.out
            rw [← hys] at hown
            obtain ⟨g, hA, hbg, hc, hf, hput⟩ := hown.head
            subst hA hll
            have hlen := Lib.hid (hown.len)
            have hput := Lib.hid hput
            have HB2 := Lib.hid fun v => HB.out.setCell (p := ⟨g, 0, none⟩) hbg v
            obtain ⟨hb0, hb1⟩ := nb_bound n 7
            have hhi : nb n 7 < 64 := by unfold nb; simp only [Int.reducePow]; omega
            have hor : bits .or .u8 (nb n 7) 192 = nb n 7 + 192 := or_high hb0 hhi (by decide)
            have hfin := Lib.hid (show venc 3 n = (nb n 7 + 64 * ((3 : Nat) : Int)) :: vlow n 7 from rfl)
            clear hown hys Hys HO HB HL
            go_wp2
            go_ret
            rw [hfin.out]
            exact ⟨some ⟨g, 0, none⟩, 8, c, rfl, hput.out _, HB2.out _⟩
end Go.Proofs.YtfimelphdmmiaaaDoor
