/- The decoder's tree in memory; walks of newInternalNode. -/
import Derived.Test.YthnaobmepfkkpaaDoorDec2
namespace Go.Proofs.YthnaobmepfkkpaaDoor
open Go Go.RowKit

/-- The tree in memory: node κ lies in block N κ, its children in block A κ; the leaves lie in block LV. -/
structure Tree (w : World) (B LV : Nat) (H : Nat → Prop) (Lf : Nat → Nat → Prop) (N A : Nat → Nat) : Prop where
  node : ∀ κ, H κ → Blk w (N κ) 104 #[.pointer (some ⟨A κ, 0, none⟩), .int .u8 0, .int .u8 0]
  arr : ∀ κ, H κ → ∃ cs : Array Value, Blk w (A κ) 111 cs ∧ cs.size = 256
  kidN : ∀ κ i, H κ → i < 256 → H (κ * 256 + i) → w.cell? ⟨A κ, i, none⟩ = some (.pointer (some ⟨N (κ * 256 + i), 0, none⟩))
  kidL : ∀ κ i t, H κ → i < 256 → Lf (κ * 256 + i) t → w.cell? ⟨A κ, i, none⟩ = some (.pointer (some ⟨LV, t * 3, none⟩))
  kid0 : ∀ κ i, H κ → i < 256 → ¬ H (κ * 256 + i) → (∀ t, ¬ Lf (κ * 256 + i) t) → w.cell? ⟨A κ, i, none⟩ = some (.pointer none)
  inj : ∀ κ κ', H κ → H κ' → A κ = A κ' → κ = κ'
  base : ∀ κ, H κ → B ≤ N κ ∧ B ≤ A κ
section
variable {w w' : World} {B LV : Nat} {H : Nat → Prop} {Lf : Nat → Nat → Prop} {N A : Nat → Nat}
theorem Tree.ltA (h : Tree w B LV H Lf N A) {κ : Nat} (hκ : H κ) : A κ < w.heap.size := by obtain ⟨cs, hc, _⟩ := h.arr κ hκ; exact hc.lt
theorem Tree.keep (h : Tree w B LV H Lf N A) (hN : ∀ κ, H κ → w'.heap[N κ]? = w.heap[N κ]?) (hA : ∀ κ, H κ → w'.heap[A κ]? = w.heap[A κ]?) : Tree w' B LV H Lf N A where
  node κ hκ := (hN κ hκ).trans (h.node κ hκ)
  arr κ hκ := by obtain ⟨cs, hc, hs⟩ := h.arr κ hκ; exact ⟨cs, (hA κ hκ).trans hc, hs⟩
  kidN κ i hκ hi hu := (World.cell?_of_block (w := w) (hA κ hκ)).trans (h.kidN κ i hκ hi hu)
  kidL κ i t hκ hi hu := (World.cell?_of_block (w := w) (hA κ hκ)).trans (h.kidL κ i t hκ hi hu)
  kid0 κ i hκ hi hu hl := (World.cell?_of_block (w := w) (hA κ hκ)).trans (h.kid0 κ i hκ hi hu hl)
  inj := h.inj
  base := h.base
theorem Tree.alloc (h : Tree w B LV H Lf N A) (o : Obj) : Tree (w.alloc o) B LV H Lf N A :=
  h.keep (fun κ hκ => Below.heap_alloc _ _ _ (h.node κ hκ).lt) (fun _ hκ => Below.heap_alloc _ _ _ (h.ltA hκ))
theorem Tree.drew (h : Tree w B LV H Lf N A) : Tree w.drew B LV H Lf N A := h.keep (fun _ _ => rfl) (fun _ _ => rfl)
theorem Tree.drewN (h : Tree w B LV H Lf N A) (n : Nat) : Tree (w.drewN n) B LV H Lf N A := h.keep (fun _ _ => rfl) (fun _ _ => rfl)
theorem Tree.congr {H' : Nat → Prop} {Lf' : Nat → Nat → Prop} (h : Tree w B LV H Lf N A) (e : ∀ κ, H κ ↔ H' κ) (e' : ∀ u t, Lf u t ↔ Lf' u t) : Tree w B LV H' Lf' N A := by
  obtain rfl : H = H' := funext fun κ => propext (e κ)
  obtain rfl : Lf = Lf' := funext fun u => funext fun t => propext (e' u t)
  exact h
/-- A block of another type is written. -/
theorem Tree.far (h : Tree w B LV H Lf N A) {g : Nat} {t : TypeId} {cs : Array Value} (hg : Blk w g t cs) (h1 : t ≠ 104) (h2 : t ≠ 111) {p : Addr} (hp : p.block = g) (u : Value) : Tree (w.setCell p u) B LV H Lf N A :=
  h.keep (fun κ hκ => Below.heap_setCell _ _ _ _ (by rw [hp]; exact Blk.same (h.node κ hκ) hg (Ne.symm h1)))
    (fun κ hκ => Below.heap_setCell _ _ _ _ (by rw [hp]; obtain ⟨cs', hc, _⟩ := h.arr κ hκ; exact Blk.same hc hg (Ne.symm h2)))
theorem Tree.frozenA (h : Tree w B LV H Lf N A) {κ : Nat} (hκ : H κ) (i : Nat) : w.frozen? ⟨A κ, i, none⟩ = false := by obtain ⟨cs, hc, _⟩ := h.arr κ hκ; exact hc.frozen i
theorem Tree.ptr (h : Tree w B LV H Lf N A) {κ : Nat} (hκ : H κ) : w.cell? ⟨N κ, 0, none⟩ = some (.pointer (some ⟨A κ, 0, none⟩)) := (h.node κ hκ).cell 0
theorem put_same {cs : Array Value} {t : TypeId} {g i : Nat} {v : Value} (hc : Blk w g t cs) (hi : i < cs.size) : (w.setCell ⟨g, i, none⟩ v).cell? ⟨g, i, none⟩ = some v := by
  rw [(hc.put i v).cell i]
  simp [hi]
theorem put_else {cs : Array Value} {t : TypeId} {g i j : Nat} {v : Value} (hc : Blk w g t cs) (hj : j ≠ i) : (w.setCell ⟨g, i, none⟩ v).cell? ⟨g, j, none⟩ = w.cell? ⟨g, j, none⟩ := by
  rw [(hc.put i v).cell j, hc.cell j, Array.getElem?_setIfInBounds]
  simp [Ne.symm hj]
/-- A leaf is hung up. -/
theorem Tree.leafStore (h : Tree w B LV H Lf N A) {κ i t : Nat} (hκ : H κ) (hi : i < 256) (hno : ¬ H (κ * 256 + i)) (hnl : ∀ t', ¬ Lf (κ * 256 + i) t') :
    Tree (w.setCell ⟨A κ, i, none⟩ (.pointer (some ⟨LV, t * 3, none⟩))) B LV H (fun u t' => Lf u t' ∨ (u = κ * 256 + i ∧ t' = t)) N A := by
  obtain ⟨cs, hc, hs⟩ := h.arr κ hκ
  have hoth : ∀ κ', H κ' → κ' ≠ κ → ∀ j, (w.setCell ⟨A κ, i, none⟩ (.pointer (some ⟨LV, t * 3, none⟩))).cell? ⟨A κ', j, none⟩ = w.cell? ⟨A κ', j, none⟩ := fun κ' hκ' hne j =>
    World.cell?_of_block (w := w) (a := ⟨A κ', j, none⟩) (Below.heap_setCell _ _ _ _ (fun e => hne (h.inj κ' κ hκ' hκ e)))
  have hidx : ∀ κ' j, j < 256 → κ' * 256 + j = κ * 256 + i → κ' = κ ∧ j = i := fun κ' j hj e => by omega
  constructor
  · intro κ' hκ'
    exact (h.node κ' hκ').far (by simpa using Blk.same (h.node κ' hκ') hc (by decide)) _
  · intro κ' hκ'
    by_cases e : κ' = κ
    · subst e; exact ⟨_, hc.put i _, by simp [hs]⟩
    · obtain ⟨cs', hc', hs'⟩ := h.arr κ' hκ'
      exact ⟨cs', hc'.far (fun e' => e (h.inj κ' κ hκ' hκ e')) _, hs'⟩
  · intro κ' j hκ' hj hu
    by_cases e : κ' = κ
    · subst e
      by_cases ej : j = i
      · subst ej; exact absurd hu hno
      · rw [put_else hc ej]; exact h.kidN κ' j hκ' hj hu
    · rw [hoth κ' hκ' e]; exact h.kidN κ' j hκ' hj hu
  · intro κ' j t' hκ' hj hu
    rcases hu with hu | ⟨hu, rfl⟩
    · by_cases e : κ' = κ
      · subst e
        by_cases ej : j = i
        · subst ej; exact absurd hu (hnl t')
        · rw [put_else hc ej]; exact h.kidL κ' j t' hκ' hj hu
      · rw [hoth κ' hκ' e]; exact h.kidL κ' j t' hκ' hj hu
    · obtain ⟨rfl, rfl⟩ := hidx κ' j hj hu
      exact put_same hc (by rw [hs]; exact hi)
  · intro κ' j hκ' hj hu hl
    have hl' : ∀ t', ¬ Lf (κ' * 256 + j) t' := fun t' h' => hl t' (.inl h')
    by_cases e : κ' = κ
    · subst e
      by_cases ej : j = i
      · subst ej; exact absurd (.inr ⟨rfl, rfl⟩) (hl t)
      · rw [put_else hc ej]; exact h.kid0 κ' j hκ' hj hu hl'
    · rw [hoth κ' hκ' e]; exact h.kid0 κ' j hκ' hj hu hl'
  · exact h.inj
  · exact h.base
/-- One entry of a function is changed. -/
def upd (f : Nat → Nat) (u v : Nat) : Nat → Nat := fun x => if x = u then v else f x
theorem upd_same (f : Nat → Nat) (u v : Nat) : upd f u v u = v := by simp [upd]
theorem upd_else {f : Nat → Nat} {u v x : Nat} (h : x ≠ u) : upd f u v x = f x := by simp [upd, h]
/-- A new node is hung up. -/
theorem Tree.nodeStore (h : Tree w B LV H Lf N A) {κ i n1 n2 : Nat} (hκ : H κ) (hi : i < 256) (hno : ¬ H (κ * 256 + i)) (hnl : ∀ t', ¬ Lf (κ * 256 + i) t') (hk0 : ∀ j, j < 256 → ¬ H ((κ * 256 + i) * 256 + j)) (hl0 : ∀ j t', j < 256 → ¬ Lf ((κ * 256 + i) * 256 + j) t') (hκ0 : 0 < κ)
    (hb1 : Blk w n1 104 #[.pointer (some ⟨n2, 0, none⟩), .int .u8 0, .int .u8 0]) (hb2 : Blk w n2 111 (Array.replicate 256 (.pointer none))) (hf : ∀ κ', H κ' → A κ' ≠ n2) (hB1 : B ≤ n1) (hB2 : B ≤ n2) :
    Tree (w.setCell ⟨A κ, i, none⟩ (.pointer (some ⟨n1, 0, none⟩))) B LV (fun x => H x ∨ x = κ * 256 + i) Lf (upd N (κ * 256 + i) n1) (upd A (κ * 256 + i) n2) := by
  obtain ⟨u, hu⟩ : ∃ u, u = κ * 256 + i := ⟨_, rfl⟩
  rw [← hu] at hno hnl hk0 hl0 ⊢
  obtain ⟨cs, hc, hs⟩ := h.arr κ hκ
  have hκu : κ ≠ u := by omega
  have hne : ∀ κ', H κ' → κ' ≠ u := fun κ' h' e => hno (e ▸ h')
  have hoth : ∀ g, g ≠ A κ → ∀ j, (w.setCell ⟨A κ, i, none⟩ (.pointer (some ⟨n1, 0, none⟩))).cell? ⟨g, j, none⟩ = w.cell? ⟨g, j, none⟩ := fun g hg j =>
    World.cell?_of_block (w := w) (a := ⟨g, j, none⟩) (Below.heap_setCell _ _ _ _ hg)
  have hAne : ∀ κ', H κ' → κ' ≠ κ → A κ' ≠ A κ := fun κ' hκ' hne' e => hne' (h.inj κ' κ hκ' hκ e)
  constructor
  · intro κ' hκ'
    rcases hκ' with hκ' | rfl
    · rw [upd_else (hne κ' hκ'), upd_else (hne κ' hκ')]
      exact (h.node κ' hκ').far (by simpa using Blk.same (h.node κ' hκ') hc (by decide)) _
    · rw [upd_same, upd_same]
      exact hb1.far (by simpa using Blk.same hb1 hc (by decide)) _
  · intro κ' hκ'
    rcases hκ' with hκ' | rfl
    · rw [upd_else (hne κ' hκ')]
      by_cases e : κ' = κ
      · subst e; exact ⟨_, hc.put i _, by simp [hs]⟩
      · obtain ⟨cs', hc', hs'⟩ := h.arr κ' hκ'
        exact ⟨cs', hc'.far (hAne κ' hκ' e) _, hs'⟩
    · rw [upd_same]
      exact ⟨_, hb2.far (by simpa using Ne.symm (hf κ hκ)) _, by simp⟩
  · intro κ' j hκ' hj hx
    rcases hκ' with hκ' | rfl
    · rw [upd_else (hne κ' hκ')]
      rcases hx with hx | hx
      · rw [upd_else (hne _ hx)]
        by_cases e : κ' = κ
        · subst e
          rw [put_else hc (fun ej => by subst ej; rw [← hu] at hx; exact hno hx)]
          exact h.kidN κ' j hκ' hj hx
        · rw [hoth _ (hAne κ' hκ' e)]; exact h.kidN κ' j hκ' hj hx
      · rw [hx, upd_same]
        obtain ⟨rfl, rfl⟩ : κ' = κ ∧ j = i := by omega
        exact put_same hc (by rw [hs]; exact hi)
    · rcases hx with hx | hx
      · exact absurd hx (hk0 j hj)
      · omega
  · intro κ' j t' hκ' hj hx
    rcases hκ' with hκ' | rfl
    · rw [upd_else (hne κ' hκ')]
      by_cases e : κ' = κ
      · subst e
        rw [put_else hc (fun ej => by subst ej; rw [← hu] at hx; exact hnl t' hx)]
        exact h.kidL κ' j t' hκ' hj hx
      · rw [hoth _ (hAne κ' hκ' e)]; exact h.kidL κ' j t' hκ' hj hx
    · exact absurd hx (hl0 j t' hj)
  · intro κ' j hκ' hj hx hl
    have hx1 : ¬ H (κ' * 256 + j) := fun h' => hx (.inl h')
    have hx2 : κ' * 256 + j ≠ u := fun h' => hx (.inr h')
    rcases hκ' with hκ' | rfl
    · rw [upd_else (hne κ' hκ')]
      by_cases e : κ' = κ
      · subst e
        rw [put_else hc (fun ej => by subst ej; exact hx2 hu.symm)]
        exact h.kid0 κ' j hκ' hj hx1 hl
      · rw [hoth _ (hAne κ' hκ' e)]; exact h.kid0 κ' j hκ' hj hx1 hl
    · rw [upd_same, hoth _ (Ne.symm (hf κ hκ)), hb2.cell j]
      simp [hj]
  · intro κ1 κ2 h1 h2 e
    rcases h1 with h1 | rfl <;> rcases h2 with h2 | rfl
    · rw [upd_else (hne _ h1), upd_else (hne _ h2)] at e; exact h.inj _ _ h1 h2 e
    · rw [upd_else (hne _ h1), upd_same] at e; exact absurd e (hf _ h1)
    · rw [upd_else (hne _ h2), upd_same] at e; exact absurd e.symm (hf _ h2)
    · rfl
  · intro κ' hκ'
    rcases hκ' with hκ' | rfl
    · rw [upd_else (hne κ' hκ'), upd_else (hne κ' hκ')]; exact h.base κ' hκ'
    · rw [upd_same, upd_same]; exact ⟨hB1, hB2⟩
end
/-- The root alone. -/
theorem Tree.root {w : World} {B LV n1 n2 : Nat} (hb1 : Blk w n1 104 #[.pointer (some ⟨n2, 0, none⟩), .int .u8 0, .int .u8 0]) (hb2 : Blk w n2 111 (Array.replicate 256 (.pointer none))) (hB1 : B ≤ n1) (hB2 : B ≤ n2) :
    Tree w B LV (fun κ => κ = 1) (fun _ _ => False) (fun _ => n1) (fun _ => n2) where
  node _ _ := hb1
  arr _ _ := ⟨_, hb2, by simp⟩
  kidN κ i hκ _ hu := by omega
  kidL _ _ _ _ _ h := h.elim
  kid0 κ i _ hi _ _ := by rw [hb2.cell i]; simp [hi]
  inj _ _ h1 h2 _ := h1.trans h2.symm
  base _ _ := ⟨hB1, hB2⟩

theorem zeroKids : Tryd.zeroCells111 = Array.replicate 256 (.pointer none) := by kernel_rfl
/-- What newInternalNode leaves. -/
def NinPost (w : World) (e : Ending) (w' : World) : Prop := e = .returned (.pointer (some ⟨w.heap.size + 1, 0, none⟩)) ∧ Blk w' (w.heap.size + 1) 104 #[.pointer (some ⟨w.heap.size, 0, none⟩), .int .u8 0, .int .u8 0] ∧ Blk w' w.heap.size 111 (Array.replicate 256 (.pointer none)) ∧ Below w.heap.size w w' ∧ w'.heap.size = w.heap.size + 2
set_option maxRecDepth 100000 in
theorem nin_any (w : World) : Calls Tryd.prog 42 #[] w (NinPost w) := by
  go_enter Tryd.func42, Tryd.ntmps42
  go_wp2
  go_ret
  refine ⟨rfl, by simpa using Blk.new (w.alloc (Obj.cells Tryd.zeroCells111 111)) 104 _, ?_, ((Below.refl _ _).alloc (Nat.le_refl _) _).alloc (by simp) _, by simp⟩
  rw [← zeroKids]
  exact (Blk.new w 111 Tryd.zeroCells111).alloc _
end Go.Proofs.YthnaobmepfkkpaaDoor
