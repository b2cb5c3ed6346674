/- Names: Token, the reference's. -/
import Derived.Test.YtfimelphdmmiaaaDoorNam2
import Derived.Lib.SlBytesConst
namespace Go.Proofs.YtfimelphdmmiaaaDoor
open Go Go.RowKit Go.ChangeShapes

/-- The marks that a token may hold. -/
def marks : List Nat := [33, 35, 36, 37, 38, 39, 42, 43, 45, 46, 94, 95, 96, 124, 126]
theorem good_eq : ∀ x : Fin 256, good x.1 = (((decide (97 ≤ x.1) && decide (x.1 ≤ 122)) || (decide (48 ≤ x.1) && decide (x.1 ≤ 57))) || marks.any (· == x.1)) := by decide +kernel
theorem marks_next {k : Nat} (h : k < 15) (x : Nat) : (marks.drop k).any (· == x) = ((marks.getD k 0 == x) || (marks.drop (k + 1)).any (· == x)) := by
  have hl : k < marks.length := h
  rw [List.drop_eq_getElem_cons hl, List.any_cons]
  simp [List.getD, hl]
/-- The marks, as a literal lays them. -/
abbrev markCells : Array Value := #[.int .u8 33, .int .u8 35, .int .u8 36, .int .u8 37, .int .u8 38, .int .u8 39, .int .u8 42, .int .u8 43, .int .u8 45, .int .u8 46, .int .u8 94, .int .u8 95, .int .u8 96, .int .u8 124, .int .u8 126]
theorem marks_cell {w : World} {k : Nat} (hk : k < 15) :
    (w.alloc (.cells markCells 5 (15, 16))).cell? ⟨w.heap.size, k, none⟩ = some (.int .u8 (marks.getD k 0)) := by
  rw [cell_of_row _ _ k _ _ _ (heap_alloc_new w (.cells markCells 5 (15, 16)))]
  rcases (show k = 0 ∨ k = 1 ∨ k = 2 ∨ k = 3 ∨ k = 4 ∨ k = 5 ∨ k = 6 ∨ k = 7 ∨ k = 8 ∨ k = 9 ∨ k = 10 ∨ k = 11 ∨ k = 12 ∨ k = 13 ∨ k = 14 by omega) with rfl | rfl | rfl | rfl | rfl | rfl | rfl | rfl | rfl | rfl | rfl | rfl | rfl | rfl | rfl <;> rfl
theorem empt (s : ByteArray) : s.toList.isEmpty = decide (s.size = 0) := by
  rw [← decide_eq_emptyBytes (inst := inferInstance)]
  rw [decide_eq_decide]
  constructor
  · rintro rfl; rfl
  · intro h
    apply ByteArray.ext
    exact Array.eq_empty_of_size_eq_zero h
theorem conv_same (w : World) : (convert 23 23 (.slice (some ⟨w.heap.size, 0, none⟩) 15 15)).run Tryd.prog (w.alloc (.cells #[.int .u8 33, .int .u8 35, .int .u8 36, .int .u8 37, .int .u8 38, .int .u8 39, .int .u8 42, .int .u8 43, .int .u8 45, .int .u8 46, .int .u8 94, .int .u8 95, .int .u8 96, .int .u8 124, .int .u8 126] 5)) = .ok (.slice (some ⟨w.heap.size, 0, none⟩) 15 15) (w.alloc (.cells markCells 5 (15, 16))) :=
  Lib.run_convert_bytes_const w 23 5 markCells 15 15 Tryd.underlying23 Tryd.underlying5

set_option maxRecDepth 100000 in
set_option maxHeartbeats 1600000 in
theorem token_any {w : World} {s : ByteArray} (hs : s.size ≤ 2147483647) :
    Calls Tryd.prog 14 #[.string s] w fun e w' => e = .returned (.bool (okk s)) ∧ Below w.heap.size w w' := by
  have hb0 := Lib.hid (Below.refl w.heap.size w)
  go_enter Tryd.func14, Tryd.ntmps14
  go_wp2
  go_loopw [10] (fun i wr => ∃ j : Nat, j ≤ s.size ∧ i = .int .i64 j ∧ (∀ k, k < j → good (byt s k) = true) ∧ Below w.heap.size w wr) (fun i _ => s.size + 1 - (intOf i).toNat)
  case atStart => exact ⟨0, by omega, rfl, fun k hk => absurd hk (Nat.not_lt_zero k), hb0.out⟩
  case round =>
    obtain ⟨j, hj, rfl, hgood, hbr⟩ := hrel
    have HG := Lib.hid hgood
    have HBr := Lib.hid hbr
    have hz := hbr.size
    clear hgood hbr
    by_cases hlt : j < s.size
    · have hbx := byt_at hlt
      have hx := byt_lt s j
      have hge := good_eq ⟨byt s j, hx⟩
      have Hbad := Lib.hid fun h : good (byt s j) = false => okk_false hlt h
      have HG2 : Hid (good (byt s j) = true → ∀ i, i < j + 1 → good (byt s i) = true) := fun h i hi => by
        rcases Nat.lt_or_ge i j with h' | h'
        · exact HG.out i h'
        · obtain rfl : i = j := by omega
          exact h
      generalize byt s j = x at *
      have HGe : Hid (good x = (((decide (97 ≤ x) && decide (x ≤ 122)) || (decide (48 ≤ x) && decide (x ≤ 57))) || marks.any (· == x))) := hge
      clear hge
      have hcw := conv_same wr
      have hBl := Lib.hid (HBr.out.alloc hz (.cells markCells 5 (15, 16)))
      have hMk := Lib.hid (fun (k : Nat) (hk : k < 15) => marks_cell (w := wr) hk)
      generalize wr.alloc (.cells markCells 5 (15, 16)) = wb at *
      have hcase : (∃ o, Hid (good x = (o || (marks.drop 0).any (· == x))) ∧ ((o = true ∧ (97 : Int) ≤ x ∧ (x : Int) ≤ 122) ∨ (o = false ∧ (97 : Int) ≤ x ∧ ¬ (x : Int) ≤ 122 ∧ (48 : Int) ≤ x ∧ ¬ (x : Int) ≤ 57) ∨ (o = false ∧ ¬ (97 : Int) ≤ x ∧ (48 : Int) ≤ x ∧ ¬ (x : Int) ≤ 57) ∨ (o = true ∧ ¬ (97 : Int) ≤ x ∧ (48 : Int) ≤ x ∧ (x : Int) ≤ 57) ∨ (o = false ∧ ¬ (97 : Int) ≤ x ∧ ¬ (48 : Int) ≤ x))) := by
        refine ⟨_, HGe.out, ?_⟩
        by_cases c1 : 97 ≤ x <;> by_cases c2 : x ≤ 122 <;> by_cases c3 : 48 ≤ x <;> by_cases c4 : x ≤ 57 <;> simp [c1, c2, c3, c4] <;> omega
      obtain ⟨o, Hg0, hcase⟩ := hcase
      rcases hcase with ⟨rfl, c1, c2⟩ | ⟨rfl, c1, c2, c3, c4⟩ | ⟨rfl, c1, c3, c4⟩ | ⟨rfl, c1, c3, c4⟩ | ⟨rfl, c1, c3⟩
      all_goals
        go_wp2
        clear c1
        try clear c2
        try clear c3
        try clear c4
        go_loop [5, 33] (fun v i => ∃ (k : Nat) (bb : Bool), k ≤ 15 ∧ i = .int .i64 k ∧ v = .bool bb ∧ good x = (bb || (marks.drop k).any (· == x))) (fun _ i => 16 - (intOf i).toNat)
        case atStart => exact ⟨0, _, by omega, rfl, rfl, Hg0.out⟩
        case round =>
          obtain ⟨k, bb, hk, rfl, rfl, hbb⟩ := hrel
          by_cases hk15 : k < 15
          · rw [marks_next hk15] at hbb
            have hm := hMk.out k hk15
            generalize marks.getD k 0 = m at *
            have hk15' : (k : Int) < 15 := by omega
            cases bb
            · by_cases hxm : x = m
              · have hq : ((x : Int) == (m : Int)) = true := by simp [hxm]
                have HBB := Lib.hid (show good x = (true || (marks.drop (k + 1)).any (· == x)) by rw [hbb]; simp [hxm])
                clear hbb hxm
                go_wp2
                go_round
                case rel => exact ⟨k + 1, _, by omega, by go_num, rfl, HBB.out⟩
                case measure => simp [intOf]; omega
              · have hq : ((x : Int) == (m : Int)) = false := by rw [beq_eq_false_iff_ne]; omega
                have HBB := Lib.hid (show good x = (false || (marks.drop (k + 1)).any (· == x)) by rw [hbb]; simp [Ne.symm hxm])
                clear hbb hxm
                go_wp2
                go_round
                case rel => exact ⟨k + 1, _, by omega, by go_num, rfl, HBB.out⟩
                case measure => simp [intOf]; omega
            · have HBB := Lib.hid (show good x = (true || (marks.drop (k + 1)).any (· == x)) by rw [hbb]; simp)
              clear hbb
              go_wp2
              go_round
              case rel => exact ⟨k + 1, _, by omega, by go_num, rfl, HBB.out⟩
              case measure => simp [intOf]; omega
          · obtain rfl : k = 15 := by omega
            have HBB := Lib.hid (show good x = bb by rw [hbb]; simp [marks])
            clear hbb
            cases bb
            · have hv := Lib.hid (Hbad.out HBB.out)
              go_wp2
              go_ret
              exact ⟨by rw [hv.out]; rfl, hBl.out⟩
            · go_wp2
              go_roundw
              case rel => exact ⟨j + 1, by omega, by go_num, HG2.out HBB.out, hBl.out⟩
              case measure => simp [intOf]; omega
    · have hE := Lib.hid (empt s)
      go_wp2
      go_ret
      refine ⟨?_, HBr.out⟩
      by_cases h0 : s.size = 0
      · rw [okk_empty h0]
        show Ending.returned (.bool (!s.toList.isEmpty)) = _
        rw [hE.out]; simp [h0]
      · rw [okk_true h0 (fun i hi => HG.out i (by omega))]
        show Ending.returned (.bool (!s.toList.isEmpty)) = _
        rw [hE.out]; simp [h0]
end Go.Proofs.YtfimelphdmmiaaaDoor
