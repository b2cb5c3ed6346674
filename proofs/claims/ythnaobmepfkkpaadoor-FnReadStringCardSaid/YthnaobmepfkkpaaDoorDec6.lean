/- What the walk of huffmanDecode speaks of: the buffer, what a byte's writing keeps. -/
import Derived.Test.YthnaobmepfkkpaaDoorDec5
import Derived.Test.YthnaobmepfkkpaaDoorBuf1
namespace Go.Proofs.YthnaobmepfkkpaaDoor
open Go Go.RowKit

/-- Numbers as bytes' cells. -/
def cellsN (l : List Nat) : List Value := (nz l).map (Value.int .u8)
theorem cellsN_snoc (l : List Nat) (x : Nat) : cellsN l ++ [.int .u8 (x : Int)] = cellsN (l ++ [x]) := by unfold cellsN; rw [nz_append]; simp [nz]
theorem cellsN_one (l : List Nat) : ∀ v ∈ cellsN l, v.oneCell' = true := fun v hv => by
  unfold cellsN at hv
  obtain ⟨x, _, rfl⟩ := List.mem_map.1 hv
  rfl
theorem cellsN_length (l : List Nat) : (cellsN l).length = l.length := by unfold cellsN; rw [List.length_map, nz_length]
theorem cellsN_bytes {l : List Nat} (h : ∀ x ∈ l, x < 256) : cellsN l = Lib.byteCells (l.map UInt8.ofNat) := by
  unfold cellsN nz Lib.byteCells
  rw [List.map_map, List.map_map]
  apply List.map_congr_left
  intro x hx
  have := h x hx
  simp
  omega
theorem str_bytes (l : List Nat) : (⟨(l.map UInt8.ofNat).toArray⟩ : ByteArray) = strOfNums (nz l) := by
  unfold strOfNums nz
  rw [List.map_map]
  congr 2
/-- The buffer: it holds acc. -/
def Buf (w : World) (B b : Nat) (acc : List Nat) : Prop := Lib.IsBuffer 94 5 B b (cellsN acc) w
theorem Buf.lt {w : World} {B b : Nat} {acc : List Nat} (h : Buf w B b acc) : b < w.heap.size := Lib.IsBuffer.lt h
theorem Buf.ge {w : World} {B b : Nat} {acc : List Nat} (h : Buf w B b acc) : B ≤ b := h.1
theorem Buf.blk {w : World} {B b : Nat} {acc : List Nat} (h : Buf w B b acc) : ∃ cs, Blk w b 94 cs := by
  obtain ⟨_, v, lr, hb, _⟩ := h
  exact ⟨_, hb⟩
theorem Buf.below {w w' : World} {B b : Nat} {acc : List Nat} (h : Buf w B b acc) (hb : Below w.heap.size w w') : Buf w' B b acc := by
  have hlt := h.lt
  obtain ⟨h0, v, lr, h1, h2, h3⟩ := h
  refine ⟨h0, v, lr, (hb.block b hlt).trans h1, ?_, h3⟩
  have hl := fun g hg => (World.ownsRow.lt h2 g hg).2
  obtain ⟨k1, k2⟩ := h2
  refine ⟨k1, ?_⟩
  rcases k2 with k2 | ⟨g, cap, cur, hv, hg, hh, r⟩
  · exact .inl k2
  · exact .inr ⟨g, cap, cur, hv, hg, (hb.block g (hl g (by rw [hv]; rfl))).trans hh, r⟩
theorem buf_byte {w : World} {B b : Nat} {acc : List Nat} {x : Nat} (h : Buf w B b acc) (hBw : B ≤ w.heap.size) (hl : acc.length ≤ 35184372088832) :
    Calls Tryd.prog 41 #[.pointer (some ⟨b, 0, none⟩), .int .u8 (x : Int)] w fun e w' => e = .returned .nilIface ∧ Buf w' B b (acc ++ [x]) ∧ Below B w w' ∧ Lib.OthersKept 5 (some b) w w' :=
  (buf_put h hBw (cellsN_one acc) (by rw [cellsN_length]; omega)).mono fun e w' ⟨h1, h2, h3, h4⟩ => ⟨h1, by unfold Buf; rw [← cellsN_snoc]; exact h2, h3, h4⟩
theorem blk_others {w w' : World} {b g : Nat} {t : TypeId} {cs cb : Array Value} (h : Blk w g t cs) (hb : Blk w b 94 cb) (h1 : t ≠ 94) (h2 : t ≠ 5) (hk : Lib.OthersKept 5 (some b) w w') : w'.heap[g]? = w.heap[g]? := by
  have hg : w.heap[g]? = some (.cells cs t (0, 0)) := h
  rw [hg]
  refine hk g _ hg ?_ ?_
  · intro e
    injection e with e
    exact Blk.same h hb h1 e
  · intro c fz e
    injection e with _ e
    exact h2 e
theorem Tree.others {w w' : World} {B LV b : Nat} {H : Nat → Prop} {Lf : Nat → Nat → Prop} {N A : Nat → Nat} {cb : Array Value} (h : Tree w B LV H Lf N A) (hb : Blk w b 94 cb) (hk : Lib.OthersKept 5 (some b) w w') : Tree w' B LV H Lf N A :=
  h.keep (fun κ hκ => blk_others (h.node κ hκ) hb (by decide) (by decide) hk) (fun κ hκ => by obtain ⟨cs, hc, _⟩ := h.arr κ hκ; exact blk_others hc hb (by decide) (by decide) hk)
theorem Leaves.others {w w' : World} {LV S b : Nat} {cb : Array Value} (h : Leaves w LV S) (hb : Blk w b 94 cb) (hk : Lib.OthersKept 5 (some b) w w') : Leaves w' LV S := by
  obtain ⟨cs, hc, _⟩ := h.ex
  exact h.keep (blk_others hc hb (by decide) (by decide) hk)
/-- A leaf's cells. -/
theorem Leaves.at_ {w : World} {LV t : Nat} (h : Leaves w LV 256) (ht : t < 256) : w.cell? ⟨LV, t * 3, none⟩ = some (.pointer none) ∧ w.cell? ⟨LV, t * 3 + 1, none⟩ = some (.int .u8 (rem8 t : Nat)) ∧ w.cell? ⟨LV, t * 3 + 2, none⟩ = some (.int .u8 (t : Nat)) := by
  obtain ⟨cs, hc, _, h1, h2⟩ := h.ex
  exact ⟨(hc.cell _).trans (h1 t ht), (hc.cell _).trans (h2 t ht).1, (hc.cell _).trans (h2 t ht).2⟩
theorem bitsB_le (ys : List Nat) : ∀ x ∈ bitsB ys, x ≤ 1 := fun x hx => by
  obtain ⟨k, hk, rfl⟩ := List.getElem_of_mem hx
  have := bitsB_get ys k (by rw [bitsB_length] at hk; exact hk)
  rw [List.getElem?_eq_getElem hk] at this
  injection this with this
  rw [this]; exact bitAt_le _ _
theorem Dst.kept {bs acc : List Nat} {sb cb cur κ : Nat} (h : Dst bs acc sb cb cur κ) (hb : ∀ b ∈ bs, b ≤ 1) : acc.length ≤ bs.length ∧ ∀ x ∈ acc, x < 256 := by
  obtain ⟨⟨done, P, e, _, hst, _⟩, _⟩ := h
  have := Kept.steps Kept.nil (fun x hx => hb x (by rw [e]; exact List.mem_append_left _ hx)) hst
  exact ⟨by have := this.len; rw [e, List.length_append]; simp at this; omega, this.bytes⟩
theorem bitsB_take {ys : List Nat} {i : Nat} (h : i < ys.length) : (bitsB ys).take (8 * (i + 1)) = (bitsB ys).take (8 * i) ++ bitsN (ys.getD i 0) 8 := by
  have h1 : ys = ys.take i ++ ys[i] :: ys.drop (i + 1) := by rw [List.getElem_cons_drop]; exact (List.take_append_drop i ys).symm
  have hl : (bitsB (ys.take i)).length = 8 * i := by rw [bitsB_length, List.length_take]; omega
  have h2 : bitsB ys = bitsB (ys.take i) ++ (bitsN ys[i] 8 ++ bitsB (ys.drop (i + 1))) := by
    conv => lhs; rw [h1]
    rw [bitsB_append]; rfl
  have hg : ys.getD i 0 = ys[i] := by rw [List.getD_eq_getElem?_getD, List.getElem?_eq_getElem h]; rfl
  have h3 : ∀ X Y Z : List Nat, (X ++ (Y ++ Z)).take (X.length + Y.length) = X ++ Y ∧ (X ++ (Y ++ Z)).take X.length = X := fun X Y Z =>
    ⟨by rw [← List.append_assoc, ← List.length_append, List.take_left], List.take_left⟩
  have h4 := h3 (bitsB (ys.take i)) (bitsN ys[i] 8) (bitsB (ys.drop (i + 1)))
  rw [hl, bitsN_length] at h4
  rw [hg, h2, show 8 * (i + 1) = 8 * i + 8 by omega, h4.1, h4.2]
end Go.Proofs.YthnaobmepfkkpaaDoor
