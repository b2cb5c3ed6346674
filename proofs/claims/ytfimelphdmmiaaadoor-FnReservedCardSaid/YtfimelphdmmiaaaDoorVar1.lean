/- Walks of what writes variable-length integers: Varint (the reference's), the stream's WriteByte and writeVarint, WriteVarint, sizeVarint. -/
import Derived.Test.YtfimelphdmmiaaaDoorEnc
import Derived.Test.YtfimelphdmmiaaaDoorNum4
namespace Go.Proofs.YtfimelphdmmiaaaDoor
open Go Go.RowKit

/-- The first number of an owned slice is turned. -/
theorem Own.head {k : IntKind} {e : TypeId} {w : World} {base n c : Nat} {A : Option Addr} {x : Int} {xs : List Int} (h : Own k e w base A n c (x :: xs)) :
    ∃ g, A = some ⟨g, 0, none⟩ ∧ base ≤ g ∧ w.cell? ⟨g, 0, none⟩ = some (.int k x) ∧ w.frozen? ⟨g, 0, none⟩ = false ∧ ∀ y, Own k e (w.setCell ⟨g, 0, none⟩ (.int k y)) base A n c (y :: xs) := by
  have hl := h.len
  have hn : 0 < n := by rw [← hl]; simp
  obtain ⟨g, cap, hv, hb, hlt⟩ := World.ownsRow.form h hn
  obtain ⟨rfl, rfl⟩ : A = some ⟨g, 0, none⟩ ∧ c = cap := by injection hv with h1 _ h3; exact ⟨h1, h3⟩
  refine ⟨g, rfl, hb, ?_, ?_, fun y => ?_⟩
  · obtain ⟨b, off, hA, hc⟩ := h.rd.head
    obtain ⟨rfl, rfl⟩ : g = b ∧ 0 = off := by simpa using hA
    exact hc
  · exact World.ownsRow.frozenAt h 0
  · have := (World.ownsRow.stored h 0 (.int k y)).1
    unfold Own
    simpa using this

/-- The stream's bytes that were written: block Q is a quicStream whose output is the call's own and holds ys; block S the stream over it. -/
def Wst (w : World) (base Q S : Nat) (ys : List Int) : Prop :=
  base ≤ Q ∧ base ≤ S ∧ base ≤ w.heap.size ∧ (∃ v, Blk w S 83 #[.pointer (some ⟨Q, 0, none⟩), v]) ∧ ∃ i A l c, Blk w Q 70 #[i, .slice A l c] ∧ Own .u8 5 w base A l c ys

set_option maxHeartbeats 400000 in
theorem qwb {w : World} {base Q S : Nat} {x : Int} {ys : List Int} (h : Wst w base Q S ys) (hl : ys.length ≤ 70368744177664) :
    Calls Tryd.prog 69 #[.pointer (some ⟨Q, 0, none⟩), .int .u8 x] w fun e w' => e = .returned .nilIface ∧ Wst w' base Q S (ys ++ [x]) ∧ Below base w w' := by
  obtain ⟨hbQ, hbS, hbw, ⟨v, hS⟩, i, A, l, c, hQ, hown⟩ := h
  have hl1 := hown.len
  have hl2 : l ≤ 70368744177664 := by omega
  have q1 : w.cell? ⟨Q, 1, none⟩ = some (.slice A l c) := hQ.cell 1
  have HO := Lib.hid hown
  have HS := Lib.hid hS
  have HQ := Lib.hid hQ
  have hneQ := Lib.hid ((hown.alloc (.cells #[.int .u8 x] 5)).blk_ne (hQ.alloc _) (by decide))
  have hneS := Lib.hid ((hown.alloc (.cells #[.int .u8 x] 5)).blk_ne (hS.alloc _) (by decide))
  have hSQ := Lib.hid (hS.same hQ (by decide))
  clear hown hS hQ hl1 hl
  go_enter Tryd.func69, Tryd.ntmps69
  go_wp2_with (at_builtin; refine wpList_app _ rfl _ _ elem8 rfl base A l c ys rfl (HO.out.alloc _) _ 1 1 _ rfl rfl (Rd.one .u8 w _ 5) (by omega) (by omega) (by simp; omega) ?_; intro A1 l1 c1 w1 hl1 hown1 hg1 hat1; have hQ1 : Blk w1 Q 70 _ := (hg1.block Q (by have := HQ.out.lt; simp; omega) (fun e => hneQ.out e.symm)).trans (HQ.out.alloc _); have hS1 : Blk w1 S 83 _ := (hg1.block S (by have := HS.out.lt; simp; omega) (fun e => hneS.out e.symm)).trans (HS.out.alloc _); have c1 := hQ1.cell 1; have f1 := hQ1.frozen 1)
  have hb1 := below_app ((Below.refl base w).alloc hbw _) (HO.out.alloc _) hg1 (by simp; omega) (Nat.le_refl _)
  go_ret
  refine ⟨rfl, ⟨hbQ, hbS, by have := hb1.size; simp [World.setCell]; omega, ⟨v, hS1.far hSQ.out _⟩, i, A1, l1, _, by simpa using hQ1.put 1 (.slice A1 l1 _), ?_⟩, hb1.setCell hbQ _⟩
  exact hown1.keep fun g hg => Below.heap_setCell _ _ _ _ (by
    rintro rfl
    exact hown1.blk_ne hQ1 (by decide) hg)

set_option maxHeartbeats 800000 in
theorem wv_any {w : World} {base Q S : Nat} {n : Int} {ys : List Int} (h : Wst w base Q S ys) (hl : ys.length ≤ 35184372088832) (h0 : 0 ≤ n) (h1 : n ≤ 4611686018427387903) :
    Calls Tryd.prog 55 #[.pointer (some ⟨S, 0, none⟩), .int .i64 n] w fun e w' => e = .returned (.tuple #[]) ∧ Wst w' base Q S (ys ++ venc (vcls n) n) ∧ Below base w w' := by
  have g0 : w.cell? ⟨S, 0, none⟩ = some (.pointer (some ⟨Q, 0, none⟩)) := by obtain ⟨_, _, _, ⟨v, hS⟩, _⟩ := h; exact hS.cell 0
  have H0 := Lib.hid h
  clear h
  by_cases c0 : n < 64
  · have he := Lib.hid (show venc (vcls n) n = [n] by unfold vcls; rw [if_pos c0, venc0 n h0 c0])
    have d0 : n ≤ 63 := by omega
    go_enter Tryd.func55, Tryd.ntmps55
    go_wp2_with fail
    refine (qwb H0.out (by omega)).mono ?_
    rintro e w1 ⟨rfl, h1x, hb1⟩
    have g1 : w1.cell? ⟨S, 0, none⟩ = some (.pointer (some ⟨Q, 0, none⟩)) := by obtain ⟨_, _, _, ⟨v, hS⟩, _⟩ := h1x; exact hS.cell 0
    have H1 := Lib.hid h1x
    have HB1 := Lib.hid (hb1)
    clear h1x hb1
    go_wp2_with fail
    go_end0
    refine ⟨rfl, ?_, HB1.out⟩
    rw [he.out]; exact H1.out
  by_cases c1 : n < 16384
  · have d0 : ¬ n ≤ 63 := by omega
    have d1 : n ≤ 16383 := by omega
    have he := Lib.hid (show vcls n = 1 by unfold vcls; rw [if_neg (by omega), if_pos c1])
    have hor : bits .or .u8 64 (n / 256) = n / 256 + 64 := by rw [Int.add_comm]; exact bits_join .u8 8 (by decide) wraps_u8 6 64 (n / 256) (by decide) (by decide) (by decide) (by omega) (by omega) (by omega)
    have hd : n / 256 % 256 = n / 256 := by omega
    have HD := Lib.hid hd
    go_enter Tryd.func55, Tryd.ntmps55
    go_wp2_with fail
    refine (qwb H0.out (by omega)).mono ?_
    rintro e w1 ⟨rfl, h1x, hb1⟩
    have g1 : w1.cell? ⟨S, 0, none⟩ = some (.pointer (some ⟨Q, 0, none⟩)) := by obtain ⟨_, _, _, ⟨v, hS⟩, _⟩ := h1x; exact hS.cell 0
    have H1 := Lib.hid h1x
    have HB1 := Lib.hid (hb1)
    clear h1x hb1
    go_wp2_with fail
    refine (qwb H1.out (by simp; omega)).mono ?_
    rintro e w2 ⟨rfl, h2x, hb2⟩
    have g2 : w2.cell? ⟨S, 0, none⟩ = some (.pointer (some ⟨Q, 0, none⟩)) := by obtain ⟨_, _, _, ⟨v, hS⟩, _⟩ := h2x; exact hS.cell 0
    have H2 := Lib.hid h2x
    have HB2 := Lib.hid (HB1.out.trans hb2)
    clear h2x hb2
    go_wp2_with fail
    go_end0
    refine ⟨rfl, ?_, HB2.out⟩
    have := H2.out
    rw [he.out, venc1, HD.out]
    simpa using this
  by_cases c2 : n < 1073741824
  · have d0 : ¬ n ≤ 63 := by omega
    have d1 : ¬ n ≤ 16383 := by omega
    have d2 : n ≤ 1073741823 := by omega
    have he := Lib.hid (show vcls n = 2 by unfold vcls; rw [if_neg (by omega), if_neg (by omega), if_pos c2])
    have hor : bits .or .u8 128 (n / 16777216) = n / 16777216 + 128 := by rw [Int.add_comm]; exact bits_join .u8 8 (by decide) wraps_u8 6 128 (n / 16777216) (by decide) (by decide) (by decide) (by omega) (by omega) (by omega)
    have hd : n / 16777216 % 256 = n / 16777216 := by omega
    have HD := Lib.hid hd
    go_enter Tryd.func55, Tryd.ntmps55
    go_wp2_with fail
    refine (qwb H0.out (by omega)).mono ?_
    rintro e w1 ⟨rfl, h1x, hb1⟩
    have g1 : w1.cell? ⟨S, 0, none⟩ = some (.pointer (some ⟨Q, 0, none⟩)) := by obtain ⟨_, _, _, ⟨v, hS⟩, _⟩ := h1x; exact hS.cell 0
    have H1 := Lib.hid h1x
    have HB1 := Lib.hid (hb1)
    clear h1x hb1
    go_wp2_with fail
    refine (qwb H1.out (by simp; omega)).mono ?_
    rintro e w2 ⟨rfl, h2x, hb2⟩
    have g2 : w2.cell? ⟨S, 0, none⟩ = some (.pointer (some ⟨Q, 0, none⟩)) := by obtain ⟨_, _, _, ⟨v, hS⟩, _⟩ := h2x; exact hS.cell 0
    have H2 := Lib.hid h2x
    have HB2 := Lib.hid (HB1.out.trans hb2)
    clear h2x hb2
    go_wp2_with fail
    refine (qwb H2.out (by simp; omega)).mono ?_
    rintro e w3 ⟨rfl, h3x, hb3⟩
    have g3 : w3.cell? ⟨S, 0, none⟩ = some (.pointer (some ⟨Q, 0, none⟩)) := by obtain ⟨_, _, _, ⟨v, hS⟩, _⟩ := h3x; exact hS.cell 0
    have H3 := Lib.hid h3x
    have HB3 := Lib.hid (HB2.out.trans hb3)
    clear h3x hb3
    go_wp2_with fail
    refine (qwb H3.out (by simp; omega)).mono ?_
    rintro e w4 ⟨rfl, h4x, hb4⟩
    have g4 : w4.cell? ⟨S, 0, none⟩ = some (.pointer (some ⟨Q, 0, none⟩)) := by obtain ⟨_, _, _, ⟨v, hS⟩, _⟩ := h4x; exact hS.cell 0
    have H4 := Lib.hid h4x
    have HB4 := Lib.hid (HB3.out.trans hb4)
    clear h4x hb4
    go_wp2_with fail
    go_end0
    refine ⟨rfl, ?_, HB4.out⟩
    have := H4.out
    rw [he.out, venc2, HD.out]
    simpa using this
  · have d0 : ¬ n ≤ 63 := by omega
    have d1 : ¬ n ≤ 16383 := by omega
    have d2 : ¬ n ≤ 1073741823 := by omega
    have he := Lib.hid (show vcls n = 3 by unfold vcls; rw [if_neg (by omega), if_neg (by omega), if_neg (by omega)])
    have hor : bits .or .u8 192 (n / 72057594037927936) = n / 72057594037927936 + 192 := by rw [Int.add_comm]; exact bits_join .u8 8 (by decide) wraps_u8 6 192 (n / 72057594037927936) (by decide) (by decide) (by decide) (by omega) (by omega) (by omega)
    have hd : n / 72057594037927936 % 256 = n / 72057594037927936 := by omega
    have HD := Lib.hid hd
    go_enter Tryd.func55, Tryd.ntmps55
    go_wp2_with fail
    refine (qwb H0.out (by omega)).mono ?_
    rintro e w1 ⟨rfl, h1x, hb1⟩
    have g1 : w1.cell? ⟨S, 0, none⟩ = some (.pointer (some ⟨Q, 0, none⟩)) := by obtain ⟨_, _, _, ⟨v, hS⟩, _⟩ := h1x; exact hS.cell 0
    have H1 := Lib.hid h1x
    have HB1 := Lib.hid (hb1)
    clear h1x hb1
    go_wp2_with fail
    refine (qwb H1.out (by simp; omega)).mono ?_
    rintro e w2 ⟨rfl, h2x, hb2⟩
    have g2 : w2.cell? ⟨S, 0, none⟩ = some (.pointer (some ⟨Q, 0, none⟩)) := by obtain ⟨_, _, _, ⟨v, hS⟩, _⟩ := h2x; exact hS.cell 0
    have H2 := Lib.hid h2x
    have HB2 := Lib.hid (HB1.out.trans hb2)
    clear h2x hb2
    go_wp2_with fail
    refine (qwb H2.out (by simp; omega)).mono ?_
    rintro e w3 ⟨rfl, h3x, hb3⟩
    have g3 : w3.cell? ⟨S, 0, none⟩ = some (.pointer (some ⟨Q, 0, none⟩)) := by obtain ⟨_, _, _, ⟨v, hS⟩, _⟩ := h3x; exact hS.cell 0
    have H3 := Lib.hid h3x
    have HB3 := Lib.hid (HB2.out.trans hb3)
    clear h3x hb3
    go_wp2_with fail
    refine (qwb H3.out (by simp; omega)).mono ?_
    rintro e w4 ⟨rfl, h4x, hb4⟩
    have g4 : w4.cell? ⟨S, 0, none⟩ = some (.pointer (some ⟨Q, 0, none⟩)) := by obtain ⟨_, _, _, ⟨v, hS⟩, _⟩ := h4x; exact hS.cell 0
    have H4 := Lib.hid h4x
    have HB4 := Lib.hid (HB3.out.trans hb4)
    clear h4x hb4
    go_wp2_with fail
    refine (qwb H4.out (by simp; omega)).mono ?_
    rintro e w5 ⟨rfl, h5x, hb5⟩
    have g5 : w5.cell? ⟨S, 0, none⟩ = some (.pointer (some ⟨Q, 0, none⟩)) := by obtain ⟨_, _, _, ⟨v, hS⟩, _⟩ := h5x; exact hS.cell 0
    have H5 := Lib.hid h5x
    have HB5 := Lib.hid (HB4.out.trans hb5)
    clear h5x hb5
    go_wp2_with fail
    refine (qwb H5.out (by simp; omega)).mono ?_
    rintro e w6 ⟨rfl, h6x, hb6⟩
    have g6 : w6.cell? ⟨S, 0, none⟩ = some (.pointer (some ⟨Q, 0, none⟩)) := by obtain ⟨_, _, _, ⟨v, hS⟩, _⟩ := h6x; exact hS.cell 0
    have H6 := Lib.hid h6x
    have HB6 := Lib.hid (HB5.out.trans hb6)
    clear h6x hb6
    go_wp2_with fail
    refine (qwb H6.out (by simp; omega)).mono ?_
    rintro e w7 ⟨rfl, h7x, hb7⟩
    have g7 : w7.cell? ⟨S, 0, none⟩ = some (.pointer (some ⟨Q, 0, none⟩)) := by obtain ⟨_, _, _, ⟨v, hS⟩, _⟩ := h7x; exact hS.cell 0
    have H7 := Lib.hid h7x
    have HB7 := Lib.hid (HB6.out.trans hb7)
    clear h7x hb7
    go_wp2_with fail
    refine (qwb H7.out (by simp; omega)).mono ?_
    rintro e w8 ⟨rfl, h8x, hb8⟩
    have g8 : w8.cell? ⟨S, 0, none⟩ = some (.pointer (some ⟨Q, 0, none⟩)) := by obtain ⟨_, _, _, ⟨v, hS⟩, _⟩ := h8x; exact hS.cell 0
    have H8 := Lib.hid h8x
    have HB8 := Lib.hid (HB7.out.trans hb8)
    clear h8x hb8
    go_wp2_with fail
    go_end0
    refine ⟨rfl, ?_, HB8.out⟩
    have := H8.out
    rw [he.out, venc3, HD.out]
    simpa using this

/-- A stream over nothing, to be written. -/
theorem reads_none (w : World) : Calls Tryd.prog 47 #[.slice none 0 0] w fun e w' => (∃ Q S, e = .returned (.tuple #[.pointer (some ⟨S, 0, none⟩), .pointer (some ⟨Q, 0, none⟩)]) ∧ Wst w' w.heap.size Q S []) ∧ Below w.heap.size w w' := by
  go_enter Tryd.func47, Tryd.ntmps47
  go_wp2_with (at_builtin; refine wpList_app w rfl _ _ elem8 rfl w.heap.size none 0 0 [] rfl (Own.nil _ _ _ _) none 0 0 [] rfl rfl (Rd.nil _ _ _) (by omega) (by omega) (Nat.le_refl _) ?_; intro A' l c' w' hl hown hg _)
  have hb1 := below_app (Below.refl w.heap.size w) (Own.nil .u8 5 w w.heap.size) hg (Nat.le_refl _) (Nat.le_refl _)
  have Hb1 := Lib.hid hb1
  clear hb1
  go_wp2
  go_ret2
  have hb := Hb1.out
  refine ⟨⟨w'.heap.size, w'.heap.size + 1, rfl, hb.size, by have := hb.size; omega, by have := hb.size; simp; omega, ⟨.int .i64 (-1), ?_⟩, .slice A' l c', none, 0, 0, (Blk.new _ _ _).alloc _, Own.nil _ _ _ _⟩, (hb.alloc hb.size _).alloc (by have := hb.size; simp; omega) _⟩
  have := Blk.new (w'.alloc (.cells #[.slice A' l c', .slice none 0 0] 70)) 83 #[.pointer (some ⟨w'.heap.size, 0, none⟩), .int .i64 (-1)]
  simpa using this

theorem iwv {w : World} {n : Int} (h0 : 0 ≤ n) (h1 : n ≤ 4611686018427387903) :
    Calls Tryd.prog 26 #[.int .i64 n] w (Wrote w w.heap.size w.heap.size (venc (vcls n) n)) := by
  go_enter Tryd.func26, Tryd.ntmps26
  go_wp2_with (go_at_call 40; go_in)
  refine (reads_none w).mono ?_
  rintro e w1 ⟨⟨Q, S, rfl, hW⟩, hb1⟩
  have HW := Lib.hid hW
  have HB := Lib.hid hb1
  clear hW hb1
  go_wp2_with fail
  refine (wv_any HW.out (Nat.zero_le _) h0 h1).mono ?_
  rintro e w2 ⟨rfl, ⟨_, _, hz, _, i, A, l, c, hQ, hown⟩, hb2⟩
  have q1 : w2.cell? ⟨Q, 1, none⟩ = some (.slice A l c) := hQ.cell 1
  have HB2 := Lib.hid (HB.out.trans hb2)
  have HO := Lib.hid hown
  clear hQ hown hb2 hz
  go_wp2
  go_ret
  exact ⟨A, l, c, rfl, by simpa using HO.out, HB2.out⟩

theorem size_any {w : World} {n : Int} (h0 : 0 ≤ n) (h1 : n ≤ 4611686018427387903) :
    Calls Tryd.prog 27 #[.int .u64 n] w fun e w' => e = .returned (.int .i64 ((2 ^ vcls n : Nat) : Int)) ∧ w = w' := by
  by_cases c0 : n < 64
  · have he := Lib.hid (show vcls n = 0 by unfold vcls; rw [if_pos c0])
    have d0 : n ≤ 63 := by omega
    go_enter Tryd.func27, Tryd.ntmps27
    go_wp2
    go_ret
    exact ⟨by rw [he.out]; rfl, rfl⟩
  have d0 : ¬ n ≤ 63 := by omega
  by_cases c1 : n < 16384
  · have he := Lib.hid (show vcls n = 1 by unfold vcls; rw [if_neg c0, if_pos c1])
    have d1 : n ≤ 16383 := by omega
    go_enter Tryd.func27, Tryd.ntmps27
    go_wp2
    go_ret
    exact ⟨by rw [he.out]; rfl, rfl⟩
  have d1 : ¬ n ≤ 16383 := by omega
  by_cases c2 : n < 1073741824
  · have he := Lib.hid (show vcls n = 2 by unfold vcls; rw [if_neg c0, if_neg c1, if_pos c2])
    have d2 : n ≤ 1073741823 := by omega
    go_enter Tryd.func27, Tryd.ntmps27
    go_wp2
    go_ret
    exact ⟨by rw [he.out]; rfl, rfl⟩
  have d2 : ¬ n ≤ 1073741823 := by omega
  have he := Lib.hid (show vcls n = 3 by unfold vcls; rw [if_neg c0, if_neg c1, if_neg c2])
  go_enter Tryd.func27, Tryd.ntmps27
  go_wp2
  go_ret
  exact ⟨by rw [he.out]; rfl, rfl⟩
end Go.Proofs.YtfimelphdmmiaaaDoor
