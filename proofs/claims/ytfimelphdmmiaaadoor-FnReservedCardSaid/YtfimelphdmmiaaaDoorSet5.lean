/- Settings: what the package reads (readSettings and its function value). -/
import Derived.Test.YtfimelphdmmiaaaDoorSet4
namespace Go.Proofs.YtfimelphdmmiaaaDoor
open Go Go.RowKit

/-- The function value: what it is handed is appended to the boxed slice. -/
theorem rs1 {w : World} {P base l c : Nat} {t v : Int} {A : Option Addr} {acc : List Int} (hbox : Blk w P 51 #[.slice A l c]) (ho : Own .i64 2 w base A l c acc) (hb : base ≤ w.heap.size) (hl : l ≤ 4294967296) :
    Calls Tryd.prog 58 #[.int .i64 t, .int .i64 v, .pointer (some ⟨P, 0, none⟩)] w fun e w' => e = .returned .nilIface ∧ (∃ A' l' c', Blk w' P 51 #[.slice A' l' c'] ∧ Own .i64 2 w' base A' l' c' (acc ++ [t, v])) ∧ FrB base P P w w' := by
  have g1 : w.cell? ⟨P, 0, none⟩ = some (.slice A l c) := hbox.cell 0
  have HB := Lib.hid hbox
  have HO := Lib.hid ho
  have hne := Lib.hid ((ho.alloc (.cells #[.int .i64 t, .int .i64 v] 2)).blk_ne (hbox.alloc _) (by decide))
  have hPl := hbox.lt
  clear hbox ho
  go_enter Tryd.func58, Tryd.ntmps58
  go_wp2_with (at_builtin; refine wpList_app _ rfl _ _ elem64 rfl base A l c acc rfl (HO.out.alloc _) _ 2 2 [t, v] rfl rfl (Rd.two .i64 w t v 2) (by omega) (by omega) (by simp; omega) ?_; intro A1 l1 c1 w1 hl1 hown1 hg1 hat1; have hP1 : Blk w1 P 51 _ := (hg1.block P (by simp; omega) (fun e => hne.out e.symm)).trans (HB.out.alloc _); have c1' := hP1.cell 0; have f1 := hP1.frozen 0)
  have hb1 := below_app ((Below.refl base w).alloc hb _) (HO.out.alloc _) hg1 (by simp; omega) (Nat.le_refl _)
  have HP1 := Lib.hid hP1
  have HO1 := Lib.hid hown1
  clear hP1 hown1 hg1 hat1
  go_wp2
  go_ret
  refine ⟨rfl, ⟨A1, l1, c1, by simpa using HP1.out.put 0 (.slice A1 l1 c1), HO1.out.keep fun g hg => Below.heap_setCell _ _ _ _ (by rintro rfl; exact HO1.out.blk_ne HP1.out (by decide) hg)⟩, (FrB.of_below hb1 P P).setCell (.inl rfl) _⟩

/-- The stream stands where a box of another kind is turned. -/
theorem Stm.box {w w' : World} {Q S P : Nat} {lim : Int} {xs : List Int} {v : Value} {t : TypeId} (h : Stm w Q S lim xs) (hP : Blk w P t #[v]) (hv : ∀ x, v ≠ .int .u8 x) (hQ : P ≠ Q) (hS : P ≠ S) (hk : ∀ k, k ≤ S → k ≠ P → w'.heap[k]? = w.heap[k]?) : Stm w' Q S lim xs := by
  obtain ⟨⟨A, c, out, hb, h1, h2, hr, hA, hy⟩, hQS, hst⟩ := h
  refine ⟨⟨A, c, out, (hk Q (by omega) (by omega)).trans hb, h1, h2, ?_, hA, hy⟩, hQS, (hk S (Nat.le_refl _) (by omega)).trans hst⟩
  intro h0
  obtain ⟨b, off, hAe, hc⟩ := hr h0
  have hbQ := hA _ hAe
  refine ⟨b, off, hAe, fun j hj => (World.cell?_of_block (w := w) (hk b (by simp at hbQ; omega) ?_)).trans (hc j hj)⟩
  rintro rfl
  have := hc j hj
  rw [hP.cell (off + j)] at this
  rcases (show off + j = 0 ∨ 0 < off + j by omega) with e | e
  · rw [e] at this
    exact hv _ (by simpa using this)
  · rw [Array.getElem?_eq_none (by simp; omega)] at this
    cases this

/-- What the stream's limit holds. -/
def mlim (w : World) (S : Nat) : Nat := match w.cell? ⟨S, 1, none⟩ with
  | some v => (intOf v).toNat
  | none => 0
theorem mlim_of {w : World} {Q S : Nat} {n : Nat} {xs : List Int} (h : Stm w Q S n xs) : mlim w S = n := by
  unfold mlim
  rw [show w.cell? ⟨S, 1, none⟩ = some (.int .i64 n) from h.2.2.cell 1]
  simp [intOf]
theorem cat_two {ys : List Int} {j : Nat} (h : j + 1 < ys.length) : cat (ys.drop j) = venc (vcls (nth ys j)) (nth ys j) ++ (venc (vcls (nth ys (j + 1))) (nth ys (j + 1)) ++ cat (ys.drop (j + 2))) := by
  rw [drop_cons (show j < ys.length by omega), drop_cons h]
  rfl
theorem take_two {ys : List Int} {j : Nat} (h : j + 1 < ys.length) : ys.take (j + 2) = ys.take j ++ [nth ys j, nth ys (j + 1)] := by
  rw [take_next h, take_next (show j < ys.length by omega)]; simp
end Go.Proofs.YtfimelphdmmiaaaDoor
