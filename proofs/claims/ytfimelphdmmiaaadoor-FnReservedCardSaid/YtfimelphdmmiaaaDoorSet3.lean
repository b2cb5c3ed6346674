/- Settings: what the reference writes (Settings). -/
import Derived.Test.YtfimelphdmmiaaaDoorSet2
namespace Go.Proofs.YtfimelphdmmiaaaDoor
open Go Go.RowKit

theorem Below.own {k : IntKind} {e : TypeId} {W w' : World} {base n c : Nat} {A : Option Addr} {xs : List Int} (hb : Below W.heap.size W w') (h : Own k e W base A n c xs) : Own k e w' base A n c xs := h.below hb (Nat.le_refl _)
theorem Below.via {a W w' : World} (hb : Below W.heap.size W w') (h : Below a.heap.size a W) : Below a.heap.size a w' := h.trans (hb.mono h.size)
theorem grown_below {k : IntKind} {e : TypeId} {a W w' : World} {n c : Nat} {A : Option Addr} {xs : List Int} (hg : W.grownBy w' (Value.slice A n c).ownBlock) (hown : Own k e W a.heap.size A n c xs) (h : Below a.heap.size a W) : Below a.heap.size a w' := below_app h hown hg h.size (Nat.le_refl _)
theorem Own.low {k : IntKind} {e : TypeId} {w : World} {base b' n c : Nat} {A : Option Addr} {xs : List Int} (h : Own k e w base A n c xs) (hb : b' ≤ base) : Own k e w b' A n c xs := by
  obtain ⟨h1, h2⟩ := h
  refine ⟨h1, ?_⟩
  rcases h2 with h2 | ⟨g, cap, cur, hv, hg, r⟩
  · exact .inl h2
  · exact .inr ⟨g, cap, cur, hv, Nat.le_trans hb hg, r⟩
theorem cat_next {ys : List Int} {j : Nat} (h : j < ys.length) : cat (ys.take (j + 1)) = cat (ys.take j) ++ venc (vcls (nth ys j)) (nth ys j) := by
  rw [take_next h, cat_append, cat_one]

set_option maxHeartbeats 800000 in
theorem settings_any {w : World} {A : Option Addr} {n c h : Nat} {ys : List Int} (hr : Rd .i64 w A ys) (hn : ys.length = n) (he : n = 2 * h) (hN : Nums ys) (h32 : n ≤ 4294967296) :
    Calls Tryd.prog 31 #[.slice A n c] w (Wrote w w.heap.size w.heap.size (frame 4 (cat ys) 0)) := by
  have HR := Lib.hid hr
  have HN := Lib.hid hn
  have HH := Lib.hid he
  have HNu := Lib.hid hN
  have hb0 := Lib.hid (Below.refl w.heap.size w)
  clear hr hn he hN
  go_enter Tryd.func31, Tryd.ntmps31
  go_wp2
  go_loopw [3, 4] (fun s i wr => ∃ (j q : Nat) (B : Option Addr) (l d : Nat), j ≤ n ∧ i = .int .i64 j ∧ s = .slice B l d ∧ j = 2 * q ∧ l ≤ 8 * j ∧ Own .u8 5 wr w.heap.size B l d (cat (ys.take j)) ∧ Below w.heap.size w wr) (fun _ i _ => n + 1 - (intOf i).toNat)
  case atStart => exact ⟨0, 0, none, 0, 0, by omega, rfl, rfl, rfl, by omega, Own.nil _ _ _ _, hb0.out⟩
  case round =>
    obtain ⟨j, q, B, l, d, hj, rfl, rfl, hjq, hl8, ho, hbr⟩ := hrel
    have HQ := Lib.hid hjq
    have hz := hbr.size
    by_cases hlt : j + 1 < n
    · have hlen := HN.out
      obtain ⟨b, off, rfl, hc⟩ := HR.out (by intro e; subst e; simp at hlen; omega)
      have HC1 : Hid (∀ W : World, (∀ k, k < w.heap.size → W.heap[k]? = w.heap[k]?) → W.cell? ⟨b, off + j, none⟩ = some (.int .i64 (nth ys j))) := fun W hW => (World.cell?_of_block (w := w) (hW b (cell_lt (hc j (by omega))))).trans (hc j (by omega))
      have HC2 : Hid (∀ W : World, (∀ k, k < w.heap.size → W.heap[k]? = w.heap[k]?) → W.cell? ⟨b, off + (j + 1), none⟩ = some (.int .i64 (nth ys (j + 1)))) := fun W hW => (World.cell?_of_block (w := w) (hW b (cell_lt (hc (j + 1) (by omega))))).trans (hc (j + 1) (by omega))
      obtain ⟨x0, x1⟩ := HNu.out.nth (j := j) (by omega)
      obtain ⟨y0, y1⟩ := HNu.out.nth (j := j + 1) (by omega)
      have X := Lib.hid (cat_next (ys := ys) (j := j) (by omega))
      have Y := Lib.hid (cat_next (ys := ys) (j := j + 1) (by omega))
      have hxl := (venc_len1 (nth ys j)).2
      have hyl := (venc_len1 (nth ys (j + 1))).2
      generalize nth ys j = x at *
      generalize nth ys (j + 1) = y at *
      have c1 := HC1.out wr hbr.block
      have c2 := HC2.out wr hbr.block
      have acc := Lib.hid ho
      have bcur := Lib.hid hbr
      have i0 : (0 : Int) ≤ (j : Int) := by omega
      have i1 : (j : Int) < (n : Int) := by omega
      have i2 : (j : Int) + 1 < (n : Int) := by omega
      have i3 : (0 : Int) ≤ (j : Int) + 1 := by omega
      have i4 : IntKind.i64.wrap ((j : Int) + 1) = (j : Int) + 1 := by rw [IntKind.wrap_i64]; omega
      have i5 : IntKind.u64.wrap x = x := IntWalk.u64_in _ (by omega)
      have i6 : IntKind.u64.wrap y = y := IntWalk.u64_in _ (by omega)
      clear hc hlen ho hbr hjq
      go_wp2_with fail
      go_region_held3 (fun W => W.cell? ⟨b, off + j, none⟩ = some (.int .i64 x) ∧ W.cell? ⟨b, off + (j + 1), none⟩ = some (.int .i64 y)) (exact ⟨HC1.out _ bcur.out.block, HC2.out _ bcur.out.block⟩) (first
        | (have zz := acc1; clear zz; go_at_call 25; refine (varint_any (n := y) (least := 0) y0 y1 (by omega)).mono ?_; rintro e w3 ⟨A3, l3, e3, rfl, hown3, hb3⟩; have acc2 := Lib.hid (Below.own hb3 acc1.out); have bcur := Lib.hid (Below.via (a := w) hb3 ⟨bcur.out.os, bcur.out.tape, bcur.out.output, bcur.out.size, bcur.out.block⟩); have hl3 : l3 ≤ 8 := (by have := hown3.len; rw [vk0] at this; omega); have v2 := Lib.hid hown3; clear hown3 hb3)
        | (go_at_call 25; refine (varint_any (n := x) (least := 0) x0 x1 (by omega)).mono ?_; rintro e w1 ⟨A1, l1, e1, rfl, hown1, hb1⟩; have acc := Lib.hid (Below.own hb1 acc.out); have bcur := Lib.hid (Below.via (a := w) hb1 ⟨bcur.out.os, bcur.out.tape, bcur.out.output, bcur.out.size, bcur.out.block⟩); have hl1 : l1 ≤ 8 := (by have := hown1.len; rw [vk0] at this; omega); have v1 := Lib.hid hown1; clear hown1 hb1)
        | (refine step_app _ rfl (.tmp 12) _ elem8 (by rfl) w.heap.size B l d _ (by rfl) acc.out A1 l1 e1 _ (by rfl) v1.out.len v1.out.rd (by omega) (by omega) bcur.out.size ?_; intro A2 l2 e2 w2 hl2 hown2 hg2 hat2; have bcur := Lib.hid (grown_below (a := w) hg2 acc.out ⟨bcur.out.os, bcur.out.tape, bcur.out.output, bcur.out.size, bcur.out.block⟩); have hll2 : l2 ≤ 8 * j + 8 := (by have := hl2.out; omega); have acc1 := Lib.hid hown2; clear hown2 hg2 hat2)
        | (refine step_app _ rfl (.tmp 19) _ elem8 (by rfl) w.heap.size A2 l2 e2 _ (by rfl) acc2.out A3 l3 e3 _ (by rfl) v2.out.len v2.out.rd (by omega) (by omega) bcur.out.size ?_; intro A4 l4 e4 w4 hl4 hown4 hg4 hat4; have bcur := Lib.hid (grown_below (a := w) hg4 acc2.out ⟨bcur.out.os, bcur.out.tape, bcur.out.output, bcur.out.size, bcur.out.block⟩); have hll4 : l4 ≤ 8 * j + 16 := (by have := hl4.out; omega); have acc3 := Lib.hid hown4; clear hown4 hg4 hat4))
      go_wp2
      go_roundw
      case rel => exact ⟨j + 2, q + 1, A4, l4, e4, by omega, by go_num, rfl, by have := HQ.out; omega, by omega, by rw [Y.out, X.out]; have := acc3.out; rw [vk0, vk0] at this; exact this, bcur.out⟩
      case measure => simp [intOf]; omega
    · have hjn : j = n := by have := HH.out; omega
      have hown : Own .u8 5 wr w.heap.size B l d (cat ys) := by rwa [hjn, ← HN.out, List.take_length] at ho
      have acc := Lib.hid hown
      have bcur := Lib.hid hbr
      clear ho hbr hown hjq
      go_wp2_with fail
      refine (frame_big (least := 0) (by omega) (by omega) (by omega) acc.out.rd acc.out.len (by omega)).mono ?_
      rintro e w1 ⟨A1, l1, e1, rfl, hown1, hb1⟩
      have bcur := Lib.hid (Below.via (a := w) hb1 bcur.out)
      have v1 := Lib.hid hown1
      clear hown1 hb1
      go_wp2
      go_ret
      exact ⟨A1, l1, e1, rfl, v1.out.low hz, bcur.out⟩
end Go.Proofs.YtfimelphdmmiaaaDoor
