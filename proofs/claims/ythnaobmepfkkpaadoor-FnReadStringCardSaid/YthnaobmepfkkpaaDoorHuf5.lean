/- Walks: HuffmanLength, the reference's; HuffmanEncodeLength; the two tables as they are laid. -/
import Derived.Test.YthnaobmepfkkpaaDoorHuf4
import Derived.LaidLaws
import Derived.LaidMore
import Derived.MakeChecks
import Derived.Lib.LaidTab
namespace Go.Proofs.YthnaobmepfkkpaaDoor
open Go Go.RowKit

/-- Byte i of a string. -/
def byt (s : ByteArray) (i : Nat) : Nat := (s.data.getD i 0).toNat
theorem byt_at {s : ByteArray} {i : Nat} (h : i < s.size) : (s[i]'h).toNat = byt s i := by
  unfold byt
  rw [Array.getD_eq_getD_getElem?, Array.getElem?_eq_getElem h]
  rfl
theorem byt_lt (s : ByteArray) (i : Nat) : byt s i < 256 := (s.data.getD i 0).toNat_lt
/-- The first j bytes of a string. -/
def bsTo (s : ByteArray) (j : Nat) : List Nat := (List.range j).map (byt s)
theorem bsTo_succ (s : ByteArray) (j : Nat) : bsTo s (j + 1) = bsTo s j ++ [byt s j] := by unfold bsTo; rw [List.range_succ, List.map_append]; rfl
theorem bsTo_lt (s : ByteArray) (j : Nat) : ∀ x ∈ bsTo s j, x < 256 := fun x hx => by
  obtain ⟨i, _, rfl⟩ := List.mem_map.1 hx
  exact byt_lt s i
/-- The bits of the code of a string's first j bytes. -/
def hb (s : ByteArray) (j : Nat) : List Nat := hbits hL hC (bsTo s j)
theorem hb_succ (s : ByteArray) (j : Nat) : hb s (j + 1) = hb s j ++ bitsN (hC (byt s j)) (hL (byt s j)) := by
  unfold hb; rw [bsTo_succ, hbits_append]; simp [hbits]
theorem hb_zero (s : ByteArray) : hb s 0 = [] := rfl
theorem hb_len_succ (s : ByteArray) (j : Nat) : (hb s (j + 1)).length = (hb s j).length + hL (byt s j) := by rw [hb_succ, List.length_append, bitsN_length]
theorem hb_len_le (s : ByteArray) (j : Nat) : (hb s j).length ≤ 30 * j := by
  induction j with
  | zero => simp [hb_zero]
  | succ j ih => rw [hb_len_succ]; have := (code.pos (byt s j) (by have := byt_lt s j; omega)).2; omega

/-- What the two tables hold, in a world. -/
def TabL (w : World) : Prop := ∀ i, i < 256 → w.cell? ⟨1, i, none⟩ = some (.int .u8 (hL i : Nat))
def TabC (w : World) : Prop := ∀ i, i < 256 → w.cell? ⟨2, i, none⟩ = some (.int .u32 (hC i : Nat))
theorem TabL.below {w w' : World} {B : Nat} (h : TabL w) (hb : Below B w w') (hB : 1 < B) : TabL w' := fun i hi => (hb.cell (p := ⟨1, i, none⟩) hB).trans (h i hi)
theorem TabC.below {w w' : World} {B : Nat} (h : TabC w) (hb : Below B w w') (hB : 2 < B) : TabC w' := fun i hi => (hb.cell (p := ⟨2, i, none⟩) hB).trans (h i hi)
theorem TabL.lt {w : World} (h : TabL w) : 1 < w.heap.size := cell_lt (h 0 (by omega))
theorem TabC.lt {w : World} (h : TabC w) : 2 < w.heap.size := cell_lt (h 0 (by omega))
theorem laidL : (Rows.laid_semaphorist_pub_hpack_huffmanCodeLen : DataW Unit) = Lib.tabData .u8 tabL := by kernel_rfl
theorem laidC : (Rows.laid_semaphorist_pub_hpack_huffmanCodes : DataW Unit) = Lib.tabData .u32 tabC := by kernel_rfl
theorem tab_all : (List.range 256).all (fun i => decide (tabL.getD i 0 = (hL i : Int)) && decide (tabC.getD i 0 = (hC i : Int))) = true := by decide +kernel
theorem tab_len : tabL.length = 256 ∧ tabC.length = 256 := by decide +kernel
theorem tab_at {i : Nat} (h : i < 256) : tabL.getD i 0 = (hL i : Int) ∧ tabC.getD i 0 = (hC i : Int) := by
  have := List.all_eq_true.1 tab_all i (List.mem_range.2 h)
  simpa using this
theorem nameL : Tryd.prog.globalNamed "semaphorist/pub/hpack.huffmanCodeLen" = some 1 := by kernel_rfl
theorem nameC : Tryd.prog.globalNamed "semaphorist/pub/hpack.huffmanCodes" = some 2 := by kernel_rfl
theorem tabC_of {W : World} {r : List (String × DataW Unit)} (h : laidMet Tryd.prog (("semaphorist/pub/hpack.huffmanCodes", Rows.laid_semaphorist_pub_hpack_huffmanCodes) :: r) W) : TabC W := by
  rw [laidC] at h
  have ht := Lib.tabIs_of_head nameC (t := 77) (e := 76) (n := 256) (by kernel_rfl) Tryd.underlying77 Tryd.underlying76 (by kernel_rfl) (by kernel_rfl) h
  intro i hi
  rw [ht.cell nameC i (by rw [tab_len.2]; exact hi), (tab_at hi).2]
theorem tabL_of {W : World} {r : List (String × DataW Unit)} (h : laidMet Tryd.prog (("semaphorist/pub/hpack.huffmanCodeLen", Rows.laid_semaphorist_pub_hpack_huffmanCodeLen) :: r) W) : TabL W := by
  rw [laidL] at h
  have ht := Lib.tabIs_of_head nameL (t := 74) (e := 5) (n := 256) (by kernel_rfl) Tryd.underlying74 Tryd.underlying5 (by kernel_rfl) (by kernel_rfl) h
  intro i hi
  rw [ht.cell nameL i (by rw [tab_len.1]; exact hi), (tab_at hi).1]

set_option maxHeartbeats 400000 in
theorem hlen_any {w : World} {s : ByteArray} (hs : s.size ≤ 2147483647) :
    Calls Tryd.prog 8 #[.string s] w fun e w' => e = .returned (.int .i64 (((hb s s.size).length + 7) / 8 : Nat)) ∧ Below w.heap.size w w' := by
  go_enter Tryd.func8, Tryd.ntmps8
  go_wp2_with fail
  refine (lengths_any w).mono ?_
  rintro e w1 ⟨rfl, ho, hbl⟩
  have HC : Hid (∀ x, x < 257 → w1.cell? ⟨w.heap.size, x, none⟩ = some (.int .i64 (hL x : Nat))) := fun x hx => by
    obtain ⟨b', off', hA, h⟩ := ho.rd (by intro e; have := ho.len; rw [e] at this; simp at this)
    obtain ⟨rfl, rfl⟩ : w.heap.size = b' ∧ 0 = off' := by simpa using hA
    have := h x (by rw [ho.len]; exact hx)
    rw [Nat.zero_add] at this
    rw [this, lens_at hx]
  have HB := Lib.hid hbl
  clear ho hbl
  go_wp2
  go_loop [4, 9] (fun tv iv => ∃ (j T : Nat), j ≤ s.size ∧ iv = .int .i64 j ∧ tv = .int .i64 T ∧ T = (hb s j).length) (fun _ iv => s.size + 1 - (intOf iv).toNat)
  case atStart => exact ⟨0, 0, by omega, rfl, rfl, rfl⟩
  case round =>
    obtain ⟨j, T, hj, rfl, rfl, hT⟩ := hrel
    have hT30 : T ≤ 30 * j := by rw [hT]; exact hb_len_le s j
    have HT := Lib.hid hT
    clear hT
    by_cases hlt : j < s.size
    · have hbx := byt_at hlt
      have hx := byt_lt s j
      have hn := Lib.hid (hb_len_succ s j)
      have c1 := HC.out (byt s j) (by omega)
      have hl30 := (code.pos (byt s j) (by omega)).2
      generalize byt s j = x at *
      generalize hL x = L at *
      have hx2 : (x : Int) < 257 := by omega
      go_wp2
      go_round
      case rel => exact ⟨j + 1, T + L, by omega, by go_num, by go_num, by rw [hn.out, HT.out]⟩
      case measure => simp [intOf]; omega
    · obtain rfl : j = s.size := by omega
      go_wp2
      go_ret
      refine ⟨?_, HB.out⟩
      rw [← HT.out]
      rfl

set_option maxHeartbeats 400000 in
theorem helen_any {w : World} {s : ByteArray} (hT : TabL w) (hs : s.size ≤ 2147483647) :
    Calls Tryd.prog 25 #[.string s] w fun e w' => e = .returned (.int .u64 (((hb s s.size).length + 7) / 8 : Nat)) ∧ w = w' := by
  have HTb := Lib.hid hT
  clear hT
  go_enter Tryd.func25, Tryd.ntmps25
  go_wp2
  go_loop [3, 4] (fun tv iv => ∃ (j T : Nat), j ≤ s.size ∧ iv = .int .i64 j ∧ tv = .int .u64 T ∧ T = (hb s j).length) (fun _ iv => s.size + 1 - (intOf iv).toNat)
  case atStart => exact ⟨0, 0, by omega, rfl, rfl, rfl⟩
  case round =>
    obtain ⟨j, T, hj, rfl, rfl, hT⟩ := hrel
    have hT30 : T ≤ 30 * j := by rw [hT]; exact hb_len_le s j
    have HT := Lib.hid hT
    clear hT
    by_cases hlt : j < s.size
    · have hbx := byt_at hlt
      have hx := byt_lt s j
      have hn := Lib.hid (hb_len_succ s j)
      have c1 := HTb.out (byt s j) (by omega)
      have hl30 := (code.pos (byt s j) (by omega)).2
      generalize byt s j = x at *
      generalize hL x = L at *
      go_wp2
      go_round
      case rel => exact ⟨j + 1, T + L, by omega, by go_num, by go_num, by rw [hn.out, HT.out]⟩
      case measure => simp [intOf]; omega
    · obtain rfl : j = s.size := by omega
      go_wp2
      go_ret
      refine ⟨?_, rfl⟩
      rw [← HT.out]
      rfl
end Go.Proofs.YthnaobmepfkkpaaDoor
