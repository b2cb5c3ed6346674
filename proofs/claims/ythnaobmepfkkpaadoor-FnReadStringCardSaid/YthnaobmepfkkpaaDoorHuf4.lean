/- Walk of the reference's codes: for each length in order, then by symbol, the next number. -/
import Derived.Test.YthnaobmepfkkpaaDoorHuf3
namespace Go.Proofs.YthnaobmepfkkpaaDoor
open Go Go.RowKit

/-- The symbols of one length, in order: none: a code is another than the next number. -/
def inn (long : Nat) : List (Nat × Nat) → Nat → Option Nat
  | [], nx => if 2147483648 < nx then none else some nx
  | p :: r, nx => if 2147483648 < nx then none else if p.1 = long then (if p.2 = nx then inn long r (nx + 1) else none) else inn long r nx
def outs : Nat → Nat → Nat → Bool
  | 0, _, _ => true
  | k + 1, long, nx => match inn long pairs (nx * 2) with
    | none => false
    | some m => outs k (long + 1) m
theorem outs_all : outs 30 1 0 = true := by decide +kernel
theorem inn_le {long nx m : Nat} {l : List (Nat × Nat)} (h : inn long l nx = some m) : nx ≤ 2147483648 := by
  cases l <;> simp only [inn] at h <;> (split at h; (cases h); omega)
theorem inn_end {long nx m : Nat} (h : inn long [] nx = some m) : nx = m := by
  have := inn_le h
  simp only [inn] at h
  rw [if_neg (by omega)] at h
  simpa using h
theorem inn_hit {long nx m : Nat} {p : Nat × Nat} {r : List (Nat × Nat)} (h : inn long (p :: r) nx = some m) (hp : p.1 = long) : p.2 = nx ∧ inn long r (nx + 1) = some m := by
  have := inn_le h
  simp only [inn] at h
  rw [if_neg (by omega), if_pos hp] at h
  split at h
  · rename_i e; exact ⟨e, h⟩
  · cases h
theorem inn_miss {long nx m : Nat} {p : Nat × Nat} {r : List (Nat × Nat)} (h : inn long (p :: r) nx = some m) (hp : ¬ p.1 = long) : inn long r nx = some m := by
  have := inn_le h
  simp only [inn] at h
  rwa [if_neg (by omega), if_neg hp] at h
theorem outs_next {k long nx : Nat} (h : outs (k + 1) long nx = true) : ∃ m, inn long pairs (nx * 2) = some m ∧ outs k (long + 1) m = true := by
  simp only [outs] at h
  split at h
  · cases h
  · rename_i m e; exact ⟨m, e, h⟩
theorem pairs_drop {s : Nat} (h : s < 257) : pairs.drop s = (hL s, hC s) :: pairs.drop (s + 1) := by
  have hl : s < pairs.length := by rw [pairs_len]; exact h
  rw [List.drop_eq_getElem_cons hl]
  unfold hL hC
  rw [List.getD_eq_getElem?_getD, List.getElem?_eq_getElem hl]
  rfl
theorem lens_at {s : Nat} (h : s < 257) : nth lensI s = hL s := by
  have hl : s < pairs.length := by rw [pairs_len]; exact h
  rw [nth_get (by rw [lensI_len]; exact h)]
  unfold lensI hL
  rw [List.getElem_map, List.getD_eq_getElem?_getD, List.getElem?_eq_getElem hl]
  rfl
theorem codes_at {s : Nat} (h : s < 257) : nth codesI s = hC s := by
  have hl : s < pairs.length := by rw [pairs_len]; exact h
  rw [nth_get (by rw [codesI_len]; exact h)]
  unfold codesI hC
  rw [List.getElem_map, List.getD_eq_getElem?_getD, List.getElem?_eq_getElem hl]
  rfl
/-- A number of an owned slice is turned. -/
theorem Own.set {k : IntKind} {e : TypeId} {w : World} {base n c g : Nat} {xs : List Int} (h : Own k e w base (some ⟨g, 0, none⟩) n c xs) (i : Nat) (y : Int) : Own k e (w.setCell ⟨g, i, none⟩ (.int k y)) base (some ⟨g, 0, none⟩) n c (xs.set i y) := by
  have := (World.ownsRow.stored h i (.int k y)).1
  unfold Own
  rw [List.map_set]
  exact this
theorem nth_set {xs : List Int} {i j : Nat} {y : Int} (hi : i < xs.length) : nth (xs.set i y) j = if j = i then y else nth xs j := by
  unfold nth
  rw [List.getD_eq_getElem?_getD, List.getElem?_set, List.getD_eq_getElem?_getD]
  by_cases h : j = i
  · subst h; simp [hi]
  · simp [h, Ne.symm h]
theorem nth_ext {xs ys : List Int} (hl : xs.length = ys.length) (h : ∀ j, j < xs.length → nth xs j = nth ys j) : xs = ys := by
  apply List.ext_getElem hl
  intro j h1 h2
  have := h j h1
  rwa [nth_get h1, nth_get h2] at this

theorem made257 : (madeCells (Value.int .i64 0).cells (257 * 1)).toList = (List.replicate 257 (0 : Int)).map (Value.int .i64) := by kernel_rfl
theorem Own.made {w : World} {base : Nat} {e : TypeId} {v : Value} (h : w.ownsRow base e 1 v 257 (madeCells (Value.int .i64 0).cells (257 * 1)).toList) : w.ownsRow base e 1 v 257 ((List.replicate 257 (0 : Int)).map (Value.int .i64)) := made257 ▸ h
set_option maxRecDepth 100000 in
set_option maxHeartbeats 1600000 in
theorem codes_any {w : World} {A : Option Addr} {c : Nat} (hr : Rd .i64 w A lensI) :
    Calls Tryd.prog 20 #[.slice A 257 c] w fun e w' => e = .returned (.slice (some ⟨w.heap.size, 0, none⟩) 257 257) ∧ Own .i64 3 w' w.heap.size (some ⟨w.heap.size, 0, none⟩) 257 257 codesI ∧ Below w.heap.size w w' := by
  obtain ⟨i0, hi0, hz0, hs0, hb0⟩ := elemI.info
  obtain ⟨b, off, rfl, hc⟩ := hr (by intro e; have := lensI_len; rw [e] at this; simp at this)
  have HC : Hid (∀ s, s < 257 → w.cell? ⟨b, off + s, none⟩ = some (.int .i64 (hL s : Nat))) := fun s hs => by rw [hc s (by rw [lensI_len]; exact hs), lens_at hs]
  have Hb : Hid (i0.bytes * 257 ≤ 281474976710656) := by show _ ≤ _; rw [hb0]; omega
  clear hr hc
  go_enter Tryd.func20, Tryd.ntmps20
  go_wp2_with (at_make; refine wpList_make_full w rfl _ _ _ rfl w.heap.size 3 i0 (.int .i64 0) 1 Tryd.underlying39 hi0 hz0 hs0 .i64 .i64 _ _ 257 rfl rfl rfl rfl Hb.out (by decide) (Nat.le_refl _) ?_; intro w1 hown1 hg1; have HO1 := Lib.hid (show Own .i64 3 w1 w.heap.size (some ⟨w.heap.size, 0, none⟩) 257 257 (List.replicate 257 0) from Own.made hown1); have HB1 := Lib.hid (show Below w.heap.size w w1 from (Below.refl _ _).grown hg1 (Nat.le_refl _) (fun g e => by cases e)); clear hown1 hg1)
  have hz1 := HB1.out.size
  clear hi0 hz0 hs0 hb0 Hb
  go_loopw [4, 5] (fun nv lv wr => ∃ (nx lg : Nat) (os : List Int), nv = .int .i64 nx ∧ lv = .int .i64 lg ∧ 1 ≤ lg ∧ lg ≤ 31 ∧ nx ≤ 2147483648 ∧ Own .i64 3 wr w.heap.size (some ⟨w.heap.size, 0, none⟩) 257 257 os ∧ outs (31 - lg) lg nx = true ∧ (∀ t, t < 257 → hL t < lg → nth os t = hC t) ∧ Below w.heap.size w wr) (fun _ lv _ => 32 - (intOf lv).toNat)
  case atStart => exact ⟨0, 1, _, rfl, rfl, by omega, by omega, by omega, HO1.out, outs_all, fun t ht hlt => by have := (code.pos t ht).1; omega, HB1.out⟩
  case round =>
    obtain ⟨nx, lg, os, rfl, rfl, hlg1, hlg, hnx, ho, hout, hdone, hbr⟩ := hrel
    have HO := Lib.hid ho
    have HB := Lib.hid hbr
    have HD := Lib.hid hdone
    clear ho hbr hdone
    by_cases h30 : lg ≤ 30
    · rw [show 31 - lg = (30 - lg) + 1 by omega] at hout
      obtain ⟨m, hin, hout2⟩ := outs_next hout
      have Hin := Lib.hid hin
      have Hout2 := Lib.hid hout2
      clear hin hout2 hout
      go_wp2
      go_loopw [4, 19] (fun nv sv wr2 => ∃ (s nx2 : Nat) (os2 : List Int), s ≤ 257 ∧ nv = .int .i64 nx2 ∧ sv = .int .i64 s ∧ nx2 ≤ 4294967296 ∧ Own .i64 3 wr2 w.heap.size (some ⟨w.heap.size, 0, none⟩) 257 257 os2 ∧ inn lg (pairs.drop s) nx2 = some m ∧ (∀ t, t < 257 → (hL t < lg ∨ (hL t = lg ∧ t < s)) → nth os2 t = hC t) ∧ Below w.heap.size w wr2) (fun _ sv _ => 258 - (intOf sv).toNat)
      case atStart => exact ⟨0, nx * 2, os, by omega, by go_num, rfl, by omega, HO.out, Hin.out, fun t ht h => HD.out t ht (by omega), HB.out⟩
      case round =>
        obtain ⟨s, nx2, os2, hs, rfl, rfl, hnx2, ho2, hin2, hd2, hb2⟩ := hrel
        have hnx2' := inn_le hin2
        have HB2 := Lib.hid hb2
        have hz2 := hb2.size
        by_cases hlt : s < 257
        · rw [pairs_drop hlt] at hin2
          have c1 : wr.cell? ⟨b, off + s, none⟩ = some (.int .i64 (hL s : Nat)) := (hb2.cell (cell_lt (HC.out s hlt))).trans (HC.out s hlt)
          have hL30 := (code.pos s hlt).2
          have HO2 := Lib.hid ho2
          have Hd2 := Lib.hid hd2
          have f1 : wr.frozen? ⟨w.heap.size, s, none⟩ = false := World.ownsRow.frozenAt ho2 s
          have c2 : wr.cell? ⟨w.heap.size, s, none⟩ = some (.int .i64 (nth os2 s)) := by
            obtain ⟨b', off', hA, h⟩ := ho2.rd (by intro e; have := ho2.len; rw [e] at this; simp at this)
            obtain ⟨rfl, rfl⟩ : w.heap.size = b' ∧ 0 = off' := by simpa using hA
            have := h s (by rw [ho2.len]; exact hlt)
            rwa [Nat.zero_add] at this
          have hol := ho2.len
          clear ho2 hd2 hb2
          by_cases he : hL s = lg
          · obtain ⟨hc, hin3⟩ := inn_hit hin2 he
            have hc : hC s = nx2 := hc
            have Hc := Lib.hid hc
            have He := Lib.hid he
            have Hin3 := Lib.hid hin3
            have hq : ((hL s : Int) == (lg : Int)) = true := by simp [he]
            clear hin2 hc he hin3
            go_wp2
            go_roundw
            case rel =>
              refine ⟨s + 1, nx2 + 1, os2.set s nx2, by omega, by go_num, by go_num, by omega, HO2.out.set s nx2, Hin3.out, fun t ht h => ?_, HB2.out.setCell (Nat.le_refl _) _⟩
              rw [nth_set (by rw [hol]; exact hlt)]
              by_cases hts : t = s
              · rw [if_pos hts, hts, Hc.out]
              · rw [if_neg hts]; exact Hd2.out t ht (by omega)
            case measure => simp [intOf]; omega
          · have hin3 := inn_miss hin2 he
            have He := Lib.hid he
            have Hin3 := Lib.hid hin3
            have hq : ((hL s : Int) == (lg : Int)) = false := by rw [beq_eq_false_iff_ne]; omega
            clear hin2 he hin3
            go_wp2
            go_roundw
            case rel =>
              refine ⟨s + 1, nx2, os2, by omega, rfl, by go_num, by omega, HO2.out, Hin3.out, fun t ht h => Hd2.out t ht ?_, HB2.out⟩
              rcases h with h | ⟨h, h'⟩
              · exact .inl h
              · by_cases hts : t = s
                · subst hts; exact absurd h He.out
                · exact .inr ⟨h, by omega⟩
            case measure => simp [intOf]; omega
        · obtain rfl : s = 257 := by omega
          rw [List.drop_eq_nil_of_le (by rw [pairs_len]; omega)] at hin2
          have hm := inn_end hin2
          have HO2 := Lib.hid ho2
          have Hd2 := Lib.hid hd2
          have Hm := Lib.hid hm
          clear ho2 hd2 hb2 hin2 hm
          go_wp2
          go_roundw
          case rel => exact ⟨nx2, lg + 1, os2, rfl, by go_num, by omega, by omega, by omega, HO2.out, by rw [Hm.out, show 31 - (lg + 1) = 30 - lg by omega]; exact Hout2.out, fun t ht h => Hd2.out t ht (by omega), HB2.out⟩
          case measure => simp [intOf]; omega
    · go_wp2
      go_ret
      have e : os = codesI := nth_ext (HO.out.len.trans codesI_len.symm) fun j hj => by
        have hj' : j < 257 := by rw [← HO.out.len]; exact hj
        rw [HD.out j hj' (by have := (code.pos j hj').2; omega), codes_at hj']
      exact ⟨rfl, e ▸ HO.out, HB.out⟩
end Go.Proofs.YthnaobmepfkkpaaDoor
