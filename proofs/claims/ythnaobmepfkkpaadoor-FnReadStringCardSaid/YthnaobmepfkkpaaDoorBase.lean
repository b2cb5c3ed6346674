/- What the walks of this seat speak of: a block that is known whole, a slice of integers that reads as a list, what a call may have turned. No program stands here but for its types' numbers. -/
import Derived.Test.YthnaobmepfkkpaaDoorRows
import Derived.WalkKit
import Derived.ProofKit
import Derived.OpenShut
import Derived.Below
import Derived.Laws.OwnMore
import Derived.Laws.Rows
import Derived.Maps.AppendAt
import Derived.Deep.AppendLies
import Derived.Deep.Draws
import Derived.Lib.Hide
namespace Go.Proofs.YthnaobmepfkkpaaDoor
open Go Go.RowKit

/-- Element j of a list of numbers; a plain name, which the walk does not open. -/
def nth (xs : List Int) (j : Nat) : Int := xs.getD j 0
theorem nth_zero (x : Int) (xs : List Int) : nth (x :: xs) 0 = x := rfl
theorem nth_succ (x : Int) (xs : List Int) (j : Nat) : nth (x :: xs) (j + 1) = nth xs j := rfl
theorem nth_get {xs : List Int} {j : Nat} (h : j < xs.length) : nth xs j = xs[j] := by unfold nth; simp [h]

/-- All are bytes. -/
def Byt (xs : List Int) : Prop := ∀ x ∈ xs, 0 ≤ x ∧ x ≤ 255
theorem Byt.nil : Byt [] := fun _ h => by cases h
theorem Byt.head {x : Int} {xs : List Int} (h : Byt (x :: xs)) : 0 ≤ x ∧ x ≤ 255 := h x (List.mem_cons_self ..)
theorem Byt.tail {x : Int} {xs : List Int} (h : Byt (x :: xs)) : Byt xs := fun y hy => h y (List.mem_cons_of_mem _ hy)
theorem Byt.cons {x : Int} {xs : List Int} (h0 : 0 ≤ x) (h1 : x ≤ 255) (h : Byt xs) : Byt (x :: xs) := fun y hy => by
  rcases List.mem_cons.1 hy with rfl | hy
  · exact ⟨h0, h1⟩
  · exact h y hy
theorem Byt.append {xs ys : List Int} (h : Byt xs) (k : Byt ys) : Byt (xs ++ ys) := fun y hy => by
  rcases List.mem_append.1 hy with hy | hy
  · exact h y hy
  · exact k y hy
theorem Byt.nth {xs : List Int} (h : Byt xs) (j : Nat) : 0 ≤ nth xs j ∧ nth xs j ≤ 255 := by
  by_cases hj : j < xs.length
  · rw [nth_get hj]; exact h _ (List.getElem_mem ..)
  · unfold Proofs.YthnaobmepfkkpaaDoor.nth; rw [List.getD_eq_getElem?_getD, List.getElem?_eq_none (by omega)]; simp
theorem Byt.drop {xs : List Int} (h : Byt xs) (n : Nat) : Byt (xs.drop n) := fun y hy => h y (List.mem_of_mem_drop hy)
theorem Byt.take {xs : List Int} (h : Byt xs) (n : Nat) : Byt (xs.take n) := fun y hy => h y (List.mem_of_mem_take hy)

/-- Block g is just the cells cs, of element type t, none of them frozen. -/
def Blk (w : World) (g : Nat) (t : TypeId) (cs : Array Value) : Prop := w.heap[g]? = some (.cells cs t (0, 0))
section
variable {w w' : World} {g : Nat} {t : TypeId} {cs : Array Value}
theorem Blk.lt (h : Blk w g t cs) : g < w.heap.size := by
  rcases Nat.lt_or_ge g w.heap.size with hlt | hge
  · exact hlt
  · unfold Blk at h; rw [Array.getElem?_eq_none hge] at h; cases h
theorem Blk.cell (h : Blk w g t cs) (i : Nat) : w.cell? ⟨g, i, none⟩ = cs[i]? := cell_of_row w g i cs t (0, 0) h
theorem Blk.frozen (h : Blk w g t cs) (i : Nat) : w.frozen? ⟨g, i, none⟩ = false := by
  unfold Blk at h
  simp [World.frozen?, h]
theorem Blk.new (w : World) (t : TypeId) (cs : Array Value) : Blk (w.alloc (.cells cs t)) w.heap.size t cs := heap_alloc_new w _
theorem Blk.alloc (h : Blk w g t cs) (o : Obj) : Blk (w.alloc o) g t cs := (Below.heap_alloc w o g h.lt).trans h
theorem Blk.put (h : Blk w g t cs) (i : Nat) (u : Value) : Blk (w.setCell ⟨g, i, none⟩ u) g t (cs.setIfInBounds i u) := by
  unfold Blk at h ⊢
  simp [World.setCell, Array.getElem?_modify, h]
theorem Blk.far (h : Blk w g t cs) {p : Addr} (hp : g ≠ p.block) (u : Value) : Blk (w.setCell p u) g t cs := (Below.heap_setCell w p u g hp).trans h
theorem Blk.below {B : Nat} (h : Blk w g t cs) (hb : Below B w w') (hg : g < B) : Blk w' g t cs := (hb.block g hg).trans h
theorem Blk.same {g' : Nat} {t' : TypeId} {cs' : Array Value} (h : Blk w g t cs) (h' : Blk w g' t' cs') (hne : t ≠ t') : g ≠ g' := by
  rintro rfl
  unfold Blk at h h'
  rw [h] at h'
  injection h' with h'
  injection h' with _ ht
  exact hne ht
end
theorem cell_lt {w : World} {a : Addr} {v : Value} (h : w.cell? a = some v) : a.block < w.heap.size := by
  rcases Nat.lt_or_ge a.block w.heap.size with h' | h'
  · exact h'
  · simp [World.cell?, Array.getElem?_eq_none h'] at h

/-- The slice value with address A and length xs.length holds the numbers xs. -/
def Rd (k : IntKind) (w : World) (A : Option Addr) (xs : List Int) : Prop :=
  xs ≠ [] → ∃ b off, A = some ⟨b, off, none⟩ ∧ ∀ j, j < xs.length → w.cell? ⟨b, off + j, none⟩ = some (.int k (nth xs j))
section
variable {k : IntKind} {w w' : World} {A : Option Addr} {xs : List Int} {x : Int}
theorem Rd.nil (k : IntKind) (w : World) (A : Option Addr) : Rd k w A [] := fun h => absurd rfl h
theorem Rd.at_ (h : Rd k w A xs) (h0 : xs ≠ []) : ∃ b off, A = some ⟨b, off, none⟩ ∧ ∀ j, j < xs.length → w.cell? ⟨b, off + j, none⟩ = some (.int k (nth xs j)) := h h0
theorem Rd.head (h : Rd k w A (x :: xs)) : ∃ b off, A = some ⟨b, off, none⟩ ∧ w.cell? ⟨b, off, none⟩ = some (.int k x) := by
  obtain ⟨b, off, hA, hc⟩ := h (by simp)
  exact ⟨b, off, hA, by simpa [nth_zero] using hc 0 (by simp)⟩
theorem Rd.tail {b off : Nat} (h : Rd k w (some ⟨b, off, none⟩) (x :: xs)) : Rd k w (some ⟨b, off + 1, none⟩) xs := fun _ => by
  obtain ⟨b', off', hA, hc⟩ := h (by simp)
  obtain ⟨rfl, rfl⟩ : b = b' ∧ off = off' := by simpa using hA
  refine ⟨b, off + 1, rfl, fun j hj => ?_⟩
  have := hc (j + 1) (by simpa using hj)
  rw [nth_succ] at this
  rw [← this]; congr 2; omega
theorem Rd.keep (h : Rd k w A xs) (hk : ∀ p : Addr, (∃ a, A = some a ∧ p.block = a.block) → p.block < w.heap.size → w'.cell? p = w.cell? p) : Rd k w' A xs := fun h0 => by
  obtain ⟨b, off, hA, hc⟩ := h h0
  exact ⟨b, off, hA, fun j hj => (hk ⟨b, off + j, none⟩ ⟨_, hA, rfl⟩ (cell_lt (hc j hj))).trans (hc j hj)⟩
theorem Rd.below {B : Nat} (h : Rd k w A xs) (hb : Below B w w') (hB : w.heap.size ≤ B) : Rd k w' A xs := h.keep fun _ _ hp => hb.cell (by omega)
theorem Rd.drop {b off : Nat} (h : Rd k w (some ⟨b, off, none⟩) xs) (n : Nat) : Rd k w (some ⟨b, off + n, none⟩) (xs.drop n) := fun h0 => by
  have h1 : xs ≠ [] := fun e => h0 (by rw [e]; simp)
  obtain ⟨b', off', hA, hc⟩ := h h1
  obtain ⟨rfl, rfl⟩ : b = b' ∧ off = off' := by simpa using hA
  refine ⟨b, off + n, rfl, fun j hj => ?_⟩
  rw [List.length_drop] at hj
  have := hc (n + j) (by omega)
  rw [show off + n + j = off + (n + j) by omega, this]
  unfold nth; simp
theorem Rd.take (h : Rd k w A xs) (n : Nat) : Rd k w A (xs.take n) := fun h0 => by
  have h1 : xs ≠ [] := fun e => h0 (by rw [e]; simp)
  obtain ⟨b, off, hA, hc⟩ := h h1
  refine ⟨b, off, hA, fun j hj => ?_⟩
  rw [List.length_take] at hj
  rw [hc j (by omega)]
  unfold nth; simp [show j < n by omega]
/-- What the call owns reads as what it holds. -/
theorem Rd.of_own {base : Nat} {e : TypeId} {n c : Nat} (h : w.ownsRow base e 1 (.slice A n c) n (xs.map (Value.int k))) : Rd k w A xs := fun h0 => by
  have hl : xs.length = n := by simpa using h.1
  have hn : 0 < n := by have := List.length_pos_iff.2 h0; omega
  obtain ⟨g, cap, hv, _, hlt⟩ := h.form hn
  have hA : A = some ⟨g, 0, none⟩ := by injection hv
  subst hA
  refine ⟨g, 0, rfl, fun j hj => ?_⟩
  have := h.cells (g := g) rfl j (.int k (nth xs j)) (by rw [List.getElem?_map, List.getElem?_eq_getElem hj, nth_get hj]; rfl)
  rw [← this]; unfold Addr.add; split <;> simp_all
end

theorem below_drewN {B : Nat} {a w : World} (h : Below B a w) (n : Nat) : Below B a (w.drewN n) := ⟨h.os, h.tape, h.output, h.size, h.block⟩

/-- What a call on a stream may have turned: blocks Q and S, and new ones. -/
structure Fr (Q S : Nat) (w w' : World) : Prop where
  os : w'.os = w.os
  tape : w'.tape = w.tape
  output : w'.output = w.output
  size : w.heap.size ≤ w'.heap.size
  block : ∀ k, k < w.heap.size → k ≠ Q → k ≠ S → w'.heap[k]? = w.heap[k]?
section
variable {Q S : Nat} {a w w' : World}
theorem Fr.refl (Q S : Nat) (w : World) : Fr Q S w w := ⟨rfl, rfl, rfl, Nat.le_refl _, fun _ _ _ _ => rfl⟩
theorem Fr.trans {b c : World} (h : Fr Q S a b) (k : Fr Q S b c) : Fr Q S a c :=
  ⟨k.os.trans h.os, k.tape.trans h.tape, k.output.trans h.output, Nat.le_trans h.size k.size, fun i hi h1 h2 => (k.block i (Nat.lt_of_lt_of_le hi h.size) h1 h2).trans (h.block i hi h1 h2)⟩
theorem Fr.wide (h : Fr Q Q w w') (S : Nat) : Fr Q S w w' := ⟨h.os, h.tape, h.output, h.size, fun k hk h1 _ => h.block k hk h1 h1⟩
theorem Fr.wideR (h : Fr S S w w') (Q : Nat) : Fr Q S w w' := ⟨h.os, h.tape, h.output, h.size, fun k hk _ h2 => h.block k hk h2 h2⟩
theorem Fr.drew (h : Fr Q S a w) : Fr Q S a w.drew := ⟨h.os, h.tape, h.output, h.size, h.block⟩
theorem Fr.drewN (h : Fr Q S a w) (n : Nat) : Fr Q S a (w.drewN n) := ⟨h.os, h.tape, h.output, h.size, h.block⟩
theorem Fr.alloc (h : Fr Q S a w) (o : Obj) : Fr Q S a (w.alloc o) :=
  h.trans ⟨rfl, rfl, rfl, by simp, fun k hk _ _ => Below.heap_alloc _ _ _ hk⟩
theorem Fr.setCell (h : Fr Q S a w) {p : Addr} (hp : p.block = Q ∨ p.block = S ∨ a.heap.size ≤ p.block) (u : Value) : Fr Q S a (w.setCell p u) :=
  ⟨h.os, h.tape, h.output, by simpa [World.setCell] using h.size, fun k hk h1 h2 => (Below.heap_setCell w p u k (by omega)).trans (h.block k hk h1 h2)⟩
theorem Fr.below {B : Nat} (h : Fr Q S w w') (hQ : B ≤ Q) (hS : B ≤ S) (hB : B ≤ w.heap.size) : Below B w w' :=
  ⟨h.os, h.tape, h.output, h.size, fun k hk => h.block k (by omega) (by omega) (by omega)⟩
theorem Fr.of_below {B : Nat} (h : Below B w w') (hB : w.heap.size ≤ B) : Fr Q S w w' := ⟨h.os, h.tape, h.output, h.size, fun k hk _ _ => h.block k (by omega)⟩
theorem Fr.cell (h : Fr Q S w w') {p : Addr} {v : Value} (hc : w.cell? p = some v) (h1 : p.block ≠ Q) (h2 : p.block ≠ S) : w'.cell? p = some v :=
  (World.cell?_of_block (w := w) (h.block p.block (cell_lt hc) h1 h2)).trans hc
theorem Fr.blk {g : Nat} {t : TypeId} {cs : Array Value} (h : Fr Q S w w') (hc : Blk w g t cs) (h1 : g ≠ Q) (h2 : g ≠ S) : Blk w' g t cs := (h.block g hc.lt h1 h2).trans hc
end

/-- The stream's bytes that are still to be read: block Q is a quicStream whose input holds xs; the input's own block lies below Q. -/
def Inp (w : World) (Q : Nat) (xs : List Int) : Prop :=
  ∃ A c out, Blk w Q 58 #[.slice A xs.length c, out] ∧ xs.length ≤ c ∧ c ≤ 9223372036854775807 ∧ Rd .u8 w A xs ∧ (∀ ad, A = some ad → ad.block < Q) ∧ Byt xs
/-- .. and block S the stream over it, with its limit. -/
def Stm (w : World) (Q S : Nat) (lim : Int) (xs : List Int) : Prop :=
  Inp w Q xs ∧ Q < S ∧ Blk w S 80 #[.pointer (some ⟨Q, 0, none⟩), .int .i64 lim]
section
variable {w w' : World} {Q S : Nat} {lim : Int} {xs : List Int}
theorem Inp.keep (h : Inp w Q xs) (hQ : ∀ k, k ≤ Q → w'.heap[k]? = w.heap[k]?) : Inp w' Q xs := by
  obtain ⟨A, c, out, hb, h1, h2, hr, hA, hy⟩ := h
  refine ⟨A, c, out, (hQ Q (Nat.le_refl _)).trans hb, h1, h2, hr.keep fun p ⟨a, ha, e⟩ _ => World.cell?_of_block (w := w) (hQ _ ?_), hA, hy⟩
  have := hA a ha; omega
theorem Inp.drew (h : Inp w Q xs) : Inp w.drew Q xs := h.keep fun _ _ => rfl
theorem Stm.drew (h : Stm w Q S lim xs) : Stm w.drew Q S lim xs := ⟨h.1.drew, h.2.1, h.2.2⟩
theorem Inp.lt (h : Inp w Q xs) : Q < w.heap.size := by obtain ⟨A, c, out, hb, _⟩ := h; exact hb.lt
theorem Stm.keep (h : Stm w Q S lim xs) (hQ : ∀ k, k ≤ S → w'.heap[k]? = w.heap[k]?) : Stm w' Q S lim xs :=
  ⟨h.1.keep fun k hk => hQ k (by have := h.2.1; omega), h.2.1, (hQ S (Nat.le_refl _)).trans h.2.2⟩
theorem Stm.alloc (h : Stm w Q S lim xs) (o : Obj) : Stm (w.alloc o) Q S lim xs := h.keep fun k hk => Below.heap_alloc _ _ _ (by have := h.2.2.lt; omega)
theorem Stm.below {B : Nat} (h : Stm w Q S lim xs) (hb : Below B w w') (hB : S < B) : Stm w' Q S lim xs := h.keep fun k hk => hb.block k (by omega)
/-- The limit is turned. -/
theorem Stm.lim_ (h : Stm w Q S lim xs) (n : Int) : Stm (w.setCell ⟨S, 1, none⟩ (.int .i64 n)) Q S n xs :=
  ⟨h.1.keep fun k hk => Below.heap_setCell _ _ _ _ (by have := h.2.1; simp; omega), h.2.1, by simpa using h.2.2.put 1 (.int .i64 n)⟩
/-- Whatever a call turns but for Q: the stream itself stands. -/
theorem Stm.input {ys : List Int} (h : Stm w Q S lim xs) (hf : Fr Q Q w w') (hi : Inp w' Q ys) : Stm w' Q S lim ys :=
  ⟨hi, h.2.1, hf.blk h.2.2 (by have := h.2.1; omega) (by have := h.2.1; omega)⟩
end

/-- What io.EOF holds, in a world. -/
def Eof (w : World) (a0 : Addr) : Prop := w.cell? ⟨0, 0, none⟩ = some (.iface 113 (.pointer (some a0)))
theorem Eof.below {w w' : World} {a0 : Addr} {B : Nat} (h : Eof w a0) (hb : Below B w w') (hB : 0 < B) : Eof w' a0 := (hb.cell (p := ⟨0, 0, none⟩) hB).trans h
theorem Eof.fr {w w' : World} {a0 : Addr} {Q S : Nat} (h : Eof w a0) (hf : Fr Q S w w') (hQ : 0 < Q) (hS : 0 < S) : Eof w' a0 :=
  hf.cell h (show 0 ≠ Q by omega) (show 0 ≠ S by omega)

/-- The error value ev has the code k. -/
def EC (w : World) (a0 : Addr) (ev : Value) (k : Int) : Prop :=
  ev = .iface 66 (.int .i64 k) ∨ (ev = .iface 113 (.pointer (some a0)) ∧ k = 2) ∨
  (∃ g, ev = .iface 72 (.pointer (some ⟨g, 0, none⟩)) ∧ w.cell? ⟨g, 0, none⟩ = some (.int .i64 k)) ∨
  (∃ g, ev = .iface 69 (.pointer (some ⟨g, 0, none⟩)) ∧ w.cell? ⟨g, 0, none⟩ = some (.int .i64 k))
theorem EC.keep {w w' : World} {a0 : Addr} {ev : Value} {k : Int} (h : EC w a0 ev k) (hk : ∀ p v, w.cell? p = some v → (∃ g, p = ⟨g, 0, none⟩ ∧ (ev = .iface 72 (.pointer (some p)) ∨ ev = .iface 69 (.pointer (some p)))) → w'.cell? p = some v) : EC w' a0 ev k := by
  rcases h with h | h | ⟨g, h, hc⟩ | ⟨g, h, hc⟩
  · exact .inl h
  · exact .inr (.inl h)
  · exact .inr (.inr (.inl ⟨g, h, hk _ _ hc ⟨g, rfl, .inl h⟩⟩))
  · exact .inr (.inr (.inr ⟨g, h, hk _ _ hc ⟨g, rfl, .inr h⟩⟩))
/-- An error of whatever code but 0. -/
def Bad (w : World) (a0 : Addr) (ev : Value) : Prop := ∃ k, k ≠ 0 ∧ 0 ≤ k ∧ k ≤ 9223372036854775807 ∧ EC w a0 ev k
end Go.Proofs.YthnaobmepfkkpaaDoor
