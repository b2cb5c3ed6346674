/- Settings: what the law makes of its list (Known). -/
import Derived.Test.YtfimelphdmmiaaaDoorSet1
namespace Go.Proofs.YtfimelphdmmiaaaDoor
open Go Go.RowKit

theorem nums_two {t v : Int} (t0 : 0 ≤ t) (t1 : t ≤ 4611686018427387903) (v0 : 0 ≤ v) (v1 : v ≤ 4611686018427387903) : Nums [t, v] := fun y hy => by
  rcases List.mem_cons.1 hy with rfl | hy
  · exact ⟨t0, t1⟩
  · obtain rfl : y = v := by simpa using hy
    exact ⟨v0, v1⟩
set_option maxHeartbeats 800000 in
theorem known_any {w : World} {A : Option Addr} {n c : Nat} {xs : List Int} (h : Came .i64 w A n c xs) (h31 : n ≤ 2147483647) :
    Calls Tryd.prog 29 #[.slice A n c] w fun e w' => (∃ B l d ys, e = .returned (.slice B l d) ∧ Own .i64 2 w' w.heap.size B l d ys ∧ (∃ q : Nat, l = 2 * q) ∧ l ≤ n ∧ Nums ys ∧ Fine ys) ∧ Below w.heap.size w w' := by
  have H := Lib.hid h
  have hb0 := Lib.hid (Below.refl w.heap.size w)
  clear h
  go_enter Tryd.func29, Tryd.ntmps29
  go_wp2
  go_loopw [3, 4] (fun s i wr => ∃ (j q : Nat) (B : Option Addr) (l d : Nat) (ys : List Int), j ≤ n ∧ i = .int .i64 j ∧ s = .slice B l d ∧ l = 2 * q ∧ l ≤ j ∧ Own .i64 2 wr w.heap.size B l d ys ∧ Nums ys ∧ Fine ys ∧ Below w.heap.size w wr) (fun _ i _ => n + 1 - (intOf i).toNat)
  case atStart => exact ⟨0, 0, none, 0, 0, [], by omega, rfl, rfl, rfl, by omega, Own.nil _ _ _ _, (fun _ h => by cases h), (fun j h => by simp at h), hb0.out⟩
  case round =>
    obtain ⟨j, q, B, l, d, ys, hj, rfl, rfl, hlq, hlj, ho, hn, hf, hbr⟩ := hrel
    have HO := Lib.hid ho
    have HN := Lib.hid hn
    have HF := Lib.hid hf
    have HB := Lib.hid hbr
    have HQ := Lib.hid hlq
    have hz := hbr.size
    clear ho hn hf hbr hlq
    by_cases hlt : j + 1 < n
    · have hlen := H.out.len
      obtain ⟨b, off, rfl, hc⟩ := H.out.rd (by intro e; subst e; simp at hlen; omega)
      have c1 : wr.cell? ⟨b, off + j, none⟩ = some (.int .i64 (nth xs j)) := (HB.out.cell (cell_lt (hc j (by omega)))).trans (hc j (by omega))
      have c2 : wr.cell? ⟨b, off + (j + 1), none⟩ = some (.int .i64 (nth xs (j + 1))) := (HB.out.cell (cell_lt (hc (j + 1) (by omega)))).trans (hc (j + 1) (by omega))
      obtain ⟨t, ht, t0, t1⟩ := and62i (nth xs j)
      obtain ⟨v, hv, v0, v1⟩ := and62i (nth xs (j + 1))
      clear hc hlen
      have hcase : (t != 0) = false ∨ ((t != 0) = true ∧ t < 2) ∨ ((t != 0) = true ∧ ¬ t < 2 ∧ 5 < t) ∨ ((t != 0) = true ∧ ¬ t < 2 ∧ ¬ 5 < t) := by
        by_cases e0 : t = 0
        · exact .inl (by simp [e0])
        · have : (t != 0) = true := by simp [e0]
          by_cases e1 : t < 2
          · exact .inr (.inl ⟨this, e1⟩)
          · by_cases e2 : 5 < t
            · exact .inr (.inr (.inl ⟨this, e1, e2⟩))
            · exact .inr (.inr (.inr ⟨this, e1, e2⟩))
      go_wp2_with fail
      go_quiet (fail)
      clear c1 c2 ht hv
      rcases hcase with k0 | ⟨k0, k1⟩ | ⟨k0, k1, k2⟩ | ⟨k0, k1, k2⟩
      all_goals
        go_wp2
        go_loop [7, 8] (fun bv i => ∃ (x : Nat) (bb : Bool), x ≤ l + 1 ∧ i = .int .i64 x ∧ bv = .bool bb ∧ (bb = true → ¬ (2 ≤ t ∧ t ≤ 5))) (fun _ i => l + 3 - (intOf i).toNat)
        case atStart => exact ⟨0, _, by omega, rfl, rfl, by first | (intro h; cases h; done) | (intro _; omega) | (intro h; simp at h; omega) | (intro h; simp_all; done)⟩
        case round =>
          obtain ⟨x, bb, hx, rfl, rfl, hbb⟩ := hrel
          have HBB := Lib.hid hbb
          clear hbb
          by_cases hxl : x < l
          · have hlen := HO.out.len
            obtain ⟨b2, off2, rfl, hc2⟩ := HO.out.rd (by intro e; subst e; simp at hlen; omega)
            have c3 : (wr.drewN nq).cell? ⟨b2, off2 + x, none⟩ = some (.int .i64 (nth ys x)) := hc2 x (by omega)
            clear hc2 hlen
            cases bb
            · go_wp2
              go_round
              case rel => exact ⟨x + 2, _, by omega, by go_num, rfl, fun h => by cases h⟩
              case measure => simp [intOf]; omega
            · go_wp2
              go_round
              case rel => exact ⟨x + 2, _, by omega, by go_num, rfl, fun _ => HBB.out rfl⟩
              case measure => simp [intOf]; omega
          · cases bb
            · go_wp2
              go_roundw
              case rel => exact ⟨j + 2, q, B, l, d, ys, by omega, by go_num, rfl, HQ.out, by omega, HO.out, HN.out, HF.out, below_drewN HB.out _⟩
              case measure => simp [intOf]; omega
            · have HG := Lib.hid (HBB.out rfl)
              clear HBB
              go_wp2_with (at_builtin; refine wpList_app _ rfl _ _ elem64 rfl w.heap.size B l d ys rfl ((HO.out.drewN nq).alloc _) _ 2 2 [t, v] rfl rfl (Rd.two .i64 (wr.drewN nq) t v 2) (by omega) (by omega) (by simp; omega) ?_; intro B1 l1 d1 w1 hl1 hown1 hg1 hat1; have HB1 := Lib.hid (below_app ((below_drewN HB.out nq).alloc (by simpa using hz) _) ((HO.out.drewN nq).alloc _) hg1 (by simp; omega) (Nat.le_refl _)); have HO1 := Lib.hid hown1; clear hown1 hg1 hat1)
              go_roundw
              case rel => exact ⟨j + 2, q + 1, B1, l1, d1, ys ++ [t, v], by omega, by go_num, rfl, by have := hl1.out; have := HQ.out; omega, by have := hl1.out; omega, HO1.out, HN.out.append (nums_two t0 t1 v0 v1), HF.out.two (HO.out.len.trans HQ.out) HG.out, HB1.out⟩
              case measure => simp [intOf]; omega
    · go_wp2
      go_ret
      exact ⟨⟨B, l, d, ys, rfl, HO.out, ⟨q, HQ.out⟩, by omega, HN.out, HF.out⟩, HB.out⟩
end Go.Proofs.YtfimelphdmmiaaaDoor
