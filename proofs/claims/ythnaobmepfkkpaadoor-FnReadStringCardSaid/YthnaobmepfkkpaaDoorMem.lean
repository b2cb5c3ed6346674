/- Slices that a call makes and appends to: numbers of one cell each; the source of an append is whatever slice reads as a list (nil and empty ones too). -/
import Derived.Test.YthnaobmepfkkpaaDoorNum
import Derived.OwnWalk
import Derived.RegionTactic
namespace Go.Proofs.YthnaobmepfkkpaaDoor
open Go Go.RowKit

/-- The slice value with address A, length n, capacity c is the call's own (from block base on) and holds xs. -/
def Own (k : IntKind) (e : TypeId) (w : World) (base : Nat) (A : Option Addr) (n c : Nat) (xs : List Int) : Prop :=
  w.ownsRow base e 1 (.slice A n c) n (xs.map (Value.int k))
section
variable {k : IntKind} {e : TypeId} {w w' : World} {base : Nat} {A : Option Addr} {n c : Nat} {xs : List Int}
theorem Own.nil (k : IntKind) (e : TypeId) (w : World) (base : Nat) : Own k e w base none 0 0 [] := World.ownsRow_nil _ _ _ _
theorem Own.len (h : Own k e w base A n c xs) : xs.length = n := by simpa using h.1
theorem Own.rd (h : Own k e w base A n c xs) : Rd k w A xs := Rd.of_own h
theorem Own.alloc (h : Own k e w base A n c xs) (o : Obj) : Own k e (w.alloc o) base A n c xs := World.ownsRow.alloc h o
theorem Own.drew (h : Own k e w base A n c xs) : Own k e w.drew base A n c xs := h
theorem Own.drewN (h : Own k e w base A n c xs) (m : Nat) : Own k e (w.drewN m) base A n c xs := h
theorem Own.block (h : Own k e w base A n c xs) : ∀ g, (Value.slice A n c).ownBlock = some g → base ≤ g ∧ g < w.heap.size := World.ownsRow.lt h
/-- Owned stays owned while other blocks turn. -/
theorem Own.keep (h : Own k e w base A n c xs) (hk : ∀ g, (Value.slice A n c).ownBlock = some g → w'.heap[g]? = w.heap[g]?) : Own k e w' base A n c xs := by
  obtain ⟨h1, h2⟩ := h
  refine ⟨h1, ?_⟩
  rcases h2 with h2 | ⟨g, cap, cur, hv, hg, hh, r⟩
  · exact .inl h2
  · exact .inr ⟨g, cap, cur, hv, hg, (hk g (by rw [hv]; rfl)).trans hh, r⟩
theorem Own.below {B : Nat} (h : Own k e w base A n c xs) (hb : Below B w w') (hB : w.heap.size ≤ B) : Own k e w' base A n c xs :=
  h.keep fun g hg => hb.block g (by have := (h.block g hg).2; omega)
theorem Own.cap (h : Own k e w base A n c xs) : n ≤ c ∧ c ≤ 9223372036854775807 := by
  rcases h.2 with ⟨hv, _⟩ | ⟨g, cap, cur, hv, _, _, h1, h2, _⟩
  · injection hv with _ h1 h2; omega
  · injection hv with _ _ h3; unfold maxLen at h2; omega
theorem Own.blk_ne {g : Nat} {t : TypeId} {cs : Array Value} (h : Own k e w base A n c xs) (hg : Blk w g t cs) (hne : e ≠ t) : (Value.slice A n c).ownBlock ≠ some g := by
  rcases h.2 with ⟨hv, _⟩ | ⟨g', cap, cur, hv, _, hh, _⟩
  · rw [hv]; simp [Value.ownBlock]
  · rw [hv]
    intro he
    have : g' = g := by simpa [Value.ownBlock] using he
    subst this
    exact Blk.same (t := e) (cs := cur) hh hg hne rfl
end

/-- A type of slices of numbers, in a program. -/
structure Elem (P : Program) (k : IntKind) (t e : TypeId) (bytes : Nat) : Prop where
  slice : P.underlying t = some (.slice e)
  info : ∃ i, P.info? e = some i ∧ i.zero = some (.int k 0) ∧ i.size = 1 ∧ i.bytes = bytes

theorem elem_mk {P : Program} {k : IntKind} {t e : TypeId} {bytes : Nat} (h : P.underlying t = some (.slice e)) (hi : (P.info? e).map (fun i => (i.zero, i.size, i.bytes)) = some (some (.int k 0), 1, bytes)) : Elem P k t e bytes :=
  ⟨h, by obtain ⟨i, h0, h1, h2, h3⟩ := info_parts hi; exact ⟨i, h0, h1, h2, h3⟩⟩

section
variable {P : Program} (w : World)

theorem run_append_empty (base : Nat) (t ty e : TypeId) (i : TypeInfo) (ht : P.underlying t = some (.slice e)) (hi : P.info? e = some i)
    (v : Value) (n : Nat) (xs : List Value) (hown : w.ownsRow base e 1 v n xs) (A : Option Addr) (c : Nat) : (Builtin.append_ #[t, t] ty #[v, .slice A 0 c]).run P w = .ok v w := by
  rcases hown.2 with ⟨rfl, rfl⟩ | ⟨g, cap, cur, rfl, _, _, hnc, _⟩ <;> cases A
  · simp [Builtin.append_, run_underlying ht, sizeOf, typeInfo, hi, Builtin.lenOf, Builtin.firstCells]
  · simp [Builtin.append_, run_underlying ht, sizeOf, typeInfo, hi, Builtin.lenOf, Builtin.firstCells, loadCells, loadCellsFrom]
  · simp [Builtin.append_, run_underlying ht, sizeOf, typeInfo, hi, Builtin.lenOf, Builtin.firstCells, hnc, storeCells]
  · simp [Builtin.append_, run_underlying ht, sizeOf, typeInfo, hi, Builtin.lenOf, Builtin.firstCells, hnc, storeCells, loadCells, loadCellsFrom]

theorem run_app {k : IntKind} {t e : TypeId} {bytes : Nat} (L : Elem P k t e bytes) (ty : TypeId) (base : Nat) (A : Option Addr) (n c : Nat) (xs : List Int) (hown : Own k e w base A n c xs)
    (B : Option Addr) (m d : Nat) (ys : List Int) (hm : ys.length = m) (hr : Rd k w B ys) (h63 : n + m ≤ 9223372036854775807) (hbytes : (n + m) * bytes ≤ 140737488355328) (hbase : base ≤ w.heap.size) :
    ∃ A' c' w', (Builtin.append_ #[t, t] ty #[.slice A n c, .slice B m d]).run P w = .ok (.slice A' (n + m) c') w' ∧ Own k e w' base A' (n + m) c' (xs ++ ys) ∧ w.grownBy w' (Value.slice A n c).ownBlock ∧
      ((Value.slice A' (n + m) c').ownBlock = (Value.slice A n c).ownBlock ∨ (Value.slice A' (n + m) c').ownBlock = some w.heap.size) := by
  obtain ⟨i, hi, hz, hs, hby⟩ := L.info
  by_cases hys : ys = []
  · subst hys
    have hm0 : m = 0 := by simpa using hm.symm
    subst hm0
    exact ⟨A, c, w, run_append_empty w base t ty e i L.slice hi _ _ _ hown B d, by simpa using hown, World.grownBy.refl w _, .inl rfl⟩
  · obtain ⟨b, off, rfl, hc⟩ := hr hys
    obtain ⟨v', w', hrun, h2, h3, _, h5⟩ := run_append_own_at (P := P) w base t ty e i (.int k 0) 1 bytes L.slice hi hz hs hby rfl (by omega) (.slice A n c) n (xs.map (Value.int k)) hown ⟨b, off, none⟩ m d (ys.map (Value.int k)) (by simpa using hm)
      (fun j u hu => by
        rw [List.getElem?_map] at hu
        have hj : j < ys.length := by
          rcases Nat.lt_or_ge j ys.length with h | h
          · exact h
          · rw [List.getElem?_eq_none h] at hu; simp at hu
        rw [List.getElem?_eq_getElem hj] at hu
        have hu : Value.int k ys[j] = u := by simpa using hu
        have := hc j hj
        rw [nth_get hj, hu] at this
        rw [← this]; unfold Addr.add; split <;> simp_all)
      (fun u hu => by obtain ⟨x, _, rfl⟩ := List.mem_map.1 hu; rfl) h63 hbytes hbase
    obtain ⟨A', c', rfl⟩ : ∃ A' c', v' = .slice A' (n + m) c' := by
      rcases h2.2 with ⟨rfl, h0⟩ | ⟨g, cap, cur, rfl, _⟩
      · exact ⟨none, 0, by rw [h0]⟩
      · exact ⟨_, _, rfl⟩
    exact ⟨A', c', w', hrun, by unfold Own; rw [List.map_append]; exact h2, h3, h5⟩

theorem wpList_app {ops : Array Oper} {rest : List Oper} {o : Oper} {a : Act} {Q : Exit → Act → World → Prop} (hgd : o.guard = none) (s x : Operand)
    {k : IntKind} {t e : TypeId} {bytes : Nat} (L : Elem P k t e bytes) (ho : o.op = .call { callee := .builtin .append, args := #[s, x], argTypes := #[t, t] })
    (base : Nat) (A : Option Addr) (n c : Nat) (xs : List Int) (hs : a.eval s = .slice A n c) (hown : Own k e w base A n c xs)
    (B : Option Addr) (m d : Nat) (ys : List Int) (hx : a.eval x = .slice B m d) (hm : ys.length = m) (hr : Rd k w B ys) (h63 : n + m ≤ 9223372036854775807) (hbytes : (n + m) * bytes ≤ 140737488355328) (hbase : base ≤ w.heap.size)
    (h : ∀ A' l c' w', Hid (l = n + m) → Own k e w' base A' l c' (xs ++ ys) → w.grownBy w' (Value.slice A n c).ownBlock → ((Value.slice A' l c').ownBlock = (Value.slice A n c).ownBlock ∨ (Value.slice A' l c').ownBlock = some w.heap.size) →
      wpList P ops Q rest (a.put o.dst (.slice A' l c')) w') : wpList P ops Q (o :: rest) a w :=
  wpList_plain hgd fun _ hK => by
    obtain ⟨A', c', w', hrun, h2, h3, h4⟩ := run_app w L o.type base A n c xs hown B m d ys hm hr h63 hbytes hbase
    unfold Oper.wp execOp
    simp only [ho, resolve, invoke, builtin, Sem.run_bind, Sem.run_pure, Result.andThen_ok, List.map_toArray, List.map_cons, List.map_nil, hs, hx, hrun]
    exact hK _ _ (h A' (n + m) c' w' rfl h2 h3 h4)
end
/-- One number laid in a new block of its own, ahead of an append. -/
theorem Rd.one (k : IntKind) (w : World) (x : Int) (t : TypeId) : Rd k (w.alloc (.cells #[.int k x] t)) (some ⟨w.heap.size, 0, none⟩) [x] := fun _ =>
  ⟨w.heap.size, 0, rfl, fun j hj => by
    obtain rfl : j = 0 := by simpa using hj
    have := (Blk.new w t #[.int k x]).cell 0
    rw [Nat.zero_add, this]; rfl⟩
theorem below_app {B : Nat} {a w w' : World} {A : Option Addr} {n c base : Nat} {k : IntKind} {e : TypeId} {xs : List Int} (h : Below B a w) (hown : Own k e w base A n c xs) (hg : w.grownBy w' (Value.slice A n c).ownBlock) (hB : B ≤ w.heap.size) (hb : B ≤ base) : Below B a w' :=
  h.grown hg hB fun g e => by have := (hown.block g e).1; omega

theorem elem8 : Elem Tryd.prog .u8 23 5 1 := elem_mk Tryd.underlying23 (by kernel_rfl)
theorem elemI : Elem Tryd.prog .i64 39 3 8 := elem_mk Tryd.underlying39 (by kernel_rfl)
end Go.Proofs.YthnaobmepfkkpaaDoor
