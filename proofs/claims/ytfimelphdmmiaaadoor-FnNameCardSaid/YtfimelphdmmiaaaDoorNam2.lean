/- Names: validWireHeaderFieldName, ValidName, Token. -/
import Derived.Test.YtfimelphdmmiaaaDoorNam1
namespace Go.Proofs.YtfimelphdmmiaaaDoor
open Go Go.RowKit Go.ChangeShapes

/-- A name that is valid. -/
def okk (s : ByteArray) : Bool := decide (s.size ≠ 0) && (List.range s.size).all fun i => good (byt s i)
theorem okk_true {s : ByteArray} (h0 : s.size ≠ 0) (h : ∀ i, i < s.size → good (byt s i) = true) : okk s = true := by
  unfold okk
  simp [h0]
  exact h
theorem okk_empty {s : ByteArray} (h0 : s.size = 0) : okk s = false := by
  unfold okk
  simp [h0]
theorem okk_false {s : ByteArray} {i : Nat} (hi : i < s.size) (h : good (byt s i) = false) : okk s = false := by
  unfold okk
  rw [Bool.and_eq_false_iff]
  right
  rw [List.all_eq_false]
  exact ⟨i, List.mem_range.2 hi, by simp [h]⟩

set_option maxHeartbeats 400000 in
theorem valid_any {w : World} {s : ByteArray} (hT : Tok w) (hs : s.size ≤ 2147483647) :
    Calls Tryd.prog 46 #[.string s] w fun e w' => e = .returned (.bool (okk s)) ∧ Below w.heap.size w w' := by
  have HT := Lib.hid hT
  have hlt := hT.lt
  clear hT
  have hbel : ∀ k, Below w.heap.size w (w.iter s k) := fun k => (Below.refl w.heap.size w).alloc (Nat.le_refl _) _
  have HB := Lib.hid hbel
  clear hbel
  by_cases h0 : s.size = 0
  · have hv := okk_empty h0
    rw [hv]
    have hz : ((s.size : Int) == 0) = true := by simp [h0]
    clear h0 hv
    go_enter Tryd.func46, Tryd.ntmps46
    go_wp2
    go_ret
    exact ⟨rfl, Below.refl _ _⟩
  have hz : ((s.size : Int) == 0) = false := by rw [beq_eq_false_iff_ne]; omega
  go_enter Tryd.func46, Tryd.ntmps46
  go_wp2
  go_loopw [4] (fun _ wr => ∃ pos : Nat, wr = w.iter s pos ∧ pos ≤ s.size ∧ ∀ i, i < pos → good (byt s i) = true) (fun _ wr => s.size - wr.iterPos w.heap.size)
  case atStart => exact ⟨0, rfl, by omega, fun i hi => absurd hi (Nat.not_lt_zero i)⟩
  case round =>
    obtain ⟨pos, rfl, hps, hgood⟩ := hrel
    have HG := Lib.hid hgood
    clear hgood
    by_cases hp : pos < s.size
    · by_cases hb : byt s pos < 128
      · have hnx : ∀ ty, (Instr.next (.pointer (some ⟨w.heap.size, 0, none⟩)) true ty).run Tryd.prog (w.iter s pos) = _ := fun ty => run_next_ascii w s pos ty hp (by rw [byt_at hp]; exact hb)
        simp only [byt_at hp] at hnx
        have Hbad := Lib.hid fun h : good (byt s pos) = false => okk_false hp h
        have hi := itr (w := w.iter s (pos + 1)) hb (HT.out.below (HB.out _) hlt)
        have Hgd : Hid (good (byt s pos) = (decide (byt s pos < 128) && tok.getD (byt s pos) false && !(decide (65 ≤ byt s pos) && decide (byt s pos ≤ 90)))) := rfl
        have HG2 : Hid (good (byt s pos) = true → ∀ i, i < pos + 1 → good (byt s i) = true) := fun h i hi => by
          rcases Nat.lt_or_ge i pos with h' | h'
          · exact HG.out i h'
          · obtain rfl : i = pos := by omega
            exact h
        generalize byt s pos = b at *
        cases ht : tok.getD b false
        · rw [ht] at hi Hgd
          have Hi := Lib.hid hi
          clear hi ht
          go_wp2_with fail
          refine Hi.out.mono ?_
          rintro e w1 ⟨rfl, rfl⟩
          go_wp2
          go_ret
          exact ⟨by rw [Hbad.out (by rw [Hgd.out]; simp)]; rfl, HB.out _⟩
        · rw [ht] at hi Hgd
          have Hi := Lib.hid hi
          clear hi ht
          by_cases h65 : 65 ≤ b
          · by_cases h90 : b ≤ 90
            · have i65 : (65 : Int) ≤ (b : Int) := by omega
              have i90 : (b : Int) ≤ 90 := by omega
              go_wp2_with fail
              refine Hi.out.mono ?_
              rintro e w1 ⟨rfl, rfl⟩
              go_wp2
              go_ret
              exact ⟨by rw [Hbad.out (by rw [Hgd.out]; simp [h65, h90])]; rfl, HB.out _⟩
            · have i65 : (65 : Int) ≤ (b : Int) := by omega
              have i90 : ¬ (b : Int) ≤ 90 := by omega
              go_wp2_with fail
              refine Hi.out.mono ?_
              rintro e w1 ⟨rfl, rfl⟩
              go_wp2
              go_roundw
              case rel => exact ⟨pos + 1, rfl, by omega, HG2.out (by rw [Hgd.out]; simp [hb, h90])⟩
              case measure => simp; omega
          · have i65 : ¬ (65 : Int) ≤ (b : Int) := by omega
            go_wp2_with fail
            refine Hi.out.mono ?_
            rintro e w1 ⟨rfl, rfl⟩
            go_wp2
            go_roundw
            case rel => exact ⟨pos + 1, rfl, by omega, HG2.out (by rw [Hgd.out]; simp [hb, h65])⟩
            case measure => simp; omega
      · have hnx : ∀ ty, (Instr.next (.pointer (some ⟨w.heap.size, 0, none⟩)) true ty).run Tryd.prog (w.iter s pos) = _ := fun ty => run_next_any w s pos ty hp
        have hv := Lib.hid (okk_false hp (by unfold good; simp [hb]))
        obtain ⟨r0, r1⟩ := decode_big hp hb
        generalize (Utf8.decode s pos).1 = r at *
        generalize (Utf8.decode s pos).2 = wd at *
        have hi := itr_big (w := w.iter s (pos + wd)) (by omega) r1
        have Hi := Lib.hid hi
        clear hi
        go_wp2_with fail
        refine Hi.out.mono ?_
        rintro e w1 ⟨rfl, rfl⟩
        go_wp2
        go_ret
        exact ⟨by rw [hv.out]; rfl, HB.out _⟩
    · have hnx : ∀ ty, (Instr.next (.pointer (some ⟨w.heap.size, 0, none⟩)) true ty).run Tryd.prog (w.iter s pos) = _ := fun ty => run_next_end w s pos ty hp
      have hv := Lib.hid (okk_true h0 (fun i hi => HG.out i (by omega)))
      go_wp2
      go_ret
      exact ⟨by rw [hv.out]; rfl, HB.out _⟩

theorem iva {w : World} {s : ByteArray} (hT : Tok w) (hs : s.size ≤ 2147483647) :
    Calls Tryd.prog 13 #[.string s] w fun e w' => e = .returned (.bool (okk s)) ∧ Below w.heap.size w w' := by
  have H := Lib.hid (valid_any hT hs)
  clear hT
  generalize okk s = v at *
  go_enter Tryd.func13, Tryd.ntmps13
  go_wp2_with (go_at_call 35; go_in)
  refine H.out.mono ?_
  rintro e w1 ⟨rfl, hb⟩
  go_wp2
  go_ret
  exact ⟨rfl, hb⟩

end Go.Proofs.YtfimelphdmmiaaaDoor
