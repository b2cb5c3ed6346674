/- Walks of what reads a frame's data: quicStream.Read, stream.Read, io.ReadAtLeast, io.ReadFull, readFrameData, endFrame. -/
import Derived.Test.YthnaobmepfkkpaaDoorInt1
import Derived.Laws.CopyOwn
namespace Go.Proofs.YthnaobmepfkkpaaDoor
open Go Go.RowKit

/-- What a call on a stream that fills a buffer (block D) may have turned: Q, S, and D and what lies above it. -/
structure FrB (D Q S : Nat) (w w' : World) : Prop where
  os : w'.os = w.os
  tape : w'.tape = w.tape
  output : w'.output = w.output
  size : w.heap.size ≤ w'.heap.size
  block : ∀ k, k < D → k ≠ Q → k ≠ S → w'.heap[k]? = w.heap[k]?
section
variable {D Q S : Nat} {a w w' : World}
theorem FrB.refl (D Q S : Nat) (w : World) : FrB D Q S w w := ⟨rfl, rfl, rfl, Nat.le_refl _, fun _ _ _ _ => rfl⟩
theorem FrB.trans {b c : World} (h : FrB D Q S a b) (k : FrB D Q S b c) : FrB D Q S a c :=
  ⟨k.os.trans h.os, k.tape.trans h.tape, k.output.trans h.output, Nat.le_trans h.size k.size, fun i hi h1 h2 => (k.block i hi h1 h2).trans (h.block i hi h1 h2)⟩
theorem FrB.of_below (h : Below D w w') (Q S : Nat) : FrB D Q S w w' := ⟨h.os, h.tape, h.output, h.size, fun k hk _ _ => h.block k hk⟩
theorem FrB.of_fr (h : Fr Q S w w') (hD : D ≤ w.heap.size) : FrB D Q S w w' := ⟨h.os, h.tape, h.output, h.size, fun k hk => h.block k (by omega)⟩
theorem FrB.setCell (h : FrB D Q S a w) {p : Addr} (hp : p.block = Q ∨ p.block = S) (u : Value) : FrB D Q S a (w.setCell p u) :=
  ⟨h.os, h.tape, h.output, by simpa [World.setCell] using h.size, fun k hk h1 h2 => (Below.heap_setCell w p u k (by omega)).trans (h.block k hk h1 h2)⟩
theorem FrB.fr (h : FrB D Q S a w) (hD : a.heap.size ≤ D) : Fr Q S a w := ⟨h.os, h.tape, h.output, h.size, fun k hk => h.block k (by omega)⟩
theorem FrB.wide (h : FrB D Q Q a w) (S : Nat) : FrB D Q S a w := ⟨h.os, h.tape, h.output, h.size, fun k hk h1 _ => h.block k hk h1 h1⟩
theorem FrB.drewN (h : FrB D Q S a w) (n : Nat) : FrB D Q S a (w.drewN n) := ⟨h.os, h.tape, h.output, h.size, h.block⟩
end

set_option maxRecDepth 100000 in
/-- quicStream.Read: some bytes are there: m of them are copied to the buffer's head. -/
theorem qrd_some {w : World} {Q D n m c : Nat} {xs : List Int} {cur : Array Value} (h : Inp w Q xs) (hQD : Q < D) (hD : Blk w D 5 cur) (hcur : cur.size = n) (hx : xs ≠ []) (hm : m = Nat.min xs.length n) (hn : 0 < n) (h47 : n ≤ 140737488355328) :
    Calls Tryd.prog 65 #[.pointer (some ⟨Q, 0, none⟩), .slice (some ⟨D, 0, none⟩) n c] w fun e w' => e = .returned (.tuple #[.int .i64 m, .nilIface]) ∧ Inp w' Q (xs.drop m) ∧ Blk w' D 5 ((xs.take m).map (Value.int .u8) ++ cur.toList.drop m).toArray ∧ FrB D Q Q w w' := by
  obtain ⟨A, c0, out, hb, h1, h2, hr, hA, hy⟩ := h
  obtain ⟨b, off, rfl, hc⟩ := hr hx
  have hbQ : b < Q := hA _ rfl
  have hl0 : 0 < xs.length := List.length_pos_iff.2 hx
  have hm1 : m ≤ xs.length := by rw [hm]; exact Nat.min_le_left _ _
  have hm0 : 0 < m := by rw [hm]; exact Nat.lt_min.2 ⟨hl0, hn⟩
  have hmn : m ≤ n := by rw [hm]; exact Nat.min_le_right _ _
  have hcl : ((xs.take m).map (Value.int .u8)).length = m := by simp; omega
  have hsrc : ∀ j v, ((xs.take m).map (Value.int .u8))[j]? = some v → w.cell? ((⟨b, off, none⟩ : Addr).add j) = some v := by
    intro j u hu
    rw [List.getElem?_map] at hu
    have hj : j < (xs.take m).length := by
      rcases Nat.lt_or_ge j (xs.take m).length with h | h
      · exact h
      · rw [List.getElem?_eq_none h] at hu; simp at hu
    rw [List.getElem?_eq_getElem hj] at hu
    simp only [List.length_take] at hj
    have hu : Value.int .u8 (xs.take m)[j] = u := by simpa using hu
    have h3 := hc j (by omega)
    rw [nth_get (by omega)] at h3
    rw [List.getElem_take] at hu
    rw [← hu, ← h3]; unfold Addr.add; split <;> simp_all
  have hrun := run_copy_row (P := Tryd.prog) w 23 23 3 5 D 0 n c ⟨b, off, none⟩ xs.length c0 cur 5 ((xs.take m).map (Value.int .u8)) Tryd.underlying23 (by kernel_rfl) hD (hcl.trans hm) hsrc (by rw [hcl]; omega)
    (fun v hv => by obtain ⟨x, _, rfl⟩ := List.mem_map.1 hv; rfl)
  rw [hcl, show cur.toList.take 0 ++ (xs.take m).map (Value.int .u8) ++ cur.toList.drop (0 + m) = (xs.take m).map (Value.int .u8) ++ cur.toList.drop m by simp] at hrun
  have hD1 : Blk (w.setRow D ((xs.take m).map (Value.int .u8) ++ cur.toList.drop m).toArray) D 5 ((xs.take m).map (Value.int .u8) ++ cur.toList.drop m).toArray := setRow_heap w D cur _ 5 (0, 0) hD
  have hb1 := below_setRow (Below.refl D w) (Nat.le_refl D) ((xs.take m).map (Value.int .u8) ++ cur.toList.drop m).toArray
  generalize w.setRow D ((xs.take m).map (Value.int .u8) ++ cur.toList.drop m).toArray = w1 at *
  have hrun : (Builtin.copy_ #[23, 23] 3 #[.slice (some ⟨D, 0, none⟩) n c, .slice (some ⟨b, off, none⟩) xs.length c0]).run Tryd.prog w = .ok (.int .i64 m) w1 := hrun
  have hQ : w.cell? ⟨Q, 0, none⟩ = some (.slice (some ⟨b, off, none⟩) xs.length c0) := hb.cell 0
  have hQ1 := hb.below hb1 hQD
  have q1 : w1.cell? ⟨Q, 0, none⟩ = some (.slice (some ⟨b, off, none⟩) xs.length c0) := hQ1.cell 0
  have f1 := hQ1.frozen 0
  have hfin : ∀ A', (∀ ad, A' = some ad → ad.block = b) → Rd .u8 w A' (xs.drop m) →
      Inp (w1.setCell ⟨Q, 0, none⟩ (.slice A' (xs.length - m) (c0 - m))) Q (xs.drop m) ∧ Blk (w1.setCell ⟨Q, 0, none⟩ (.slice A' (xs.length - m) (c0 - m))) D 5 ((xs.take m).map (Value.int .u8) ++ cur.toList.drop m).toArray ∧ FrB D Q Q w (w1.setCell ⟨Q, 0, none⟩ (.slice A' (xs.length - m) (c0 - m))) := by
    intro A' hAb hR
    refine ⟨⟨A', c0 - m, out, by simpa using hQ1.put 0 (.slice A' (xs.length - m) (c0 - m)), by simp; omega, by omega, ?_, fun ad e => by have := hAb ad e; omega, hy.drop m⟩, hD1.far (by simp; omega) _, (FrB.of_below hb1 Q Q).setCell (.inl rfl) _⟩
    refine hR.keep fun p ⟨a, ha, e⟩ _ => ?_
    have := hAb a ha
    exact World.cell?_of_block (w := w) ((Below.heap_setCell _ _ _ _ (by simp; omega)).trans (hb1.block _ (by omega)))
  have hRa : Hid (_ ∧ _) := hfin (some ⟨b, off + m, none⟩) (fun ad e => by cases e; rfl) (hr.drop m)
  have hRb : Hid (c0 = m → _ ∧ _) := fun e : c0 = m => hfin (some ⟨b, off, none⟩) (fun ad e => by cases e; rfl) (by rw [List.drop_eq_nil_of_le (by omega)]; exact Rd.nil _ _ _)
  have hne : ((xs.length : Int) == 0) = false := by simp; omega
  obtain ⟨l, HL⟩ : ∃ l, Hid (l = xs.length) := ⟨_, rfl⟩
  rw [← HL.out] at hRa hRb hrun hQ q1 hne h1 hm1
  clear hfin hm hl0 hr hA hy hc hb hD hcur hx hcl hsrc hD1 hb1 hQ1
  by_cases hcm : c0 = m
  · have HRb := Lib.hid (hRb.out hcm)
    have hlm : l = m := by omega
    clear hRb hRa
    subst hcm
    have HLm := Lib.hid hlm
    subst hlm
    go_enter Tryd.func65, Tryd.ntmps65
    go_wp2
    go_ret2
    refine ⟨rfl, ?_⟩
    have := HRb.out
    rw [Nat.sub_self] at this
    simpa using this
  · clear hRb
    go_enter Tryd.func65, Tryd.ntmps65
    go_wp2
    go_ret2
    exact ⟨rfl, hRa.out⟩
/-- quicStream.Read: nothing is left. -/
theorem qrd_none {w : World} {Q n c : Nat} {B : Option Addr} {a0 : Addr} (h : Inp w Q []) (hE : Eof w a0) (hn : 0 < n) :
    Calls Tryd.prog 65 #[.pointer (some ⟨Q, 0, none⟩), .slice B n c] w fun e w' => e = .returned (.tuple #[.int .i64 0, .iface 113 (.pointer (some a0))]) ∧ Inp w' Q [] ∧ Fr Q Q w w' := by
  have hi := Lib.hid h
  obtain ⟨A, c0, out, hb, _⟩ := h
  have hQ : w.cell? ⟨Q, 0, none⟩ = some (.slice A 0 c0) := hb.cell 0
  have hn0 : (0 : Int) < (n : Int) := by omega
  unfold Eof at hE
  clear hb
  go_enter Tryd.func65, Tryd.ntmps65
  go_wp2
  go_quiet (fail)
  go_wp2
  go_ret2
  exact ⟨rfl, hi.out.keep fun _ _ => rfl, (Fr.refl Q Q w).drewN _⟩

theorem Stm.frb {w w' : World} {D Q S : Nat} {lim : Int} {xs ys : List Int} (h : Stm w Q S lim xs) (hS : S < D) (hf : FrB D Q Q w w') (hi : Inp w' Q ys) : Stm w' Q S lim ys :=
  ⟨hi, h.2.1, (hf.block S hS (by have := h.2.1; omega) (by have := h.2.1; omega)).trans h.2.2⟩
theorem Eof.frb {w w' : World} {D Q S : Nat} {a0 : Addr} (h : Eof w a0) (hf : FrB D Q S w w') (hD : 0 < D) (hQ : 0 < Q) (hS : 0 < S) : Eof w' a0 :=
  (World.cell?_of_block (w := w) (a := ⟨0, 0, none⟩) (hf.block 0 hD (show 0 ≠ Q by omega) (show 0 ≠ S by omega))).trans h

set_option maxRecDepth 100000 in
/-- stream.Read, within the limit: some bytes are there. -/
theorem srd_some {w : World} {Q S D n m c : Nat} {lim : Int} {xs : List Int} {cur : Array Value} {a0 : Addr} (h : Stm w Q S lim xs) (hE : Eof w a0) (hg : 0 < Q) (hSD : S < D) (hD : Blk w D 5 cur) (hcur : cur.size = n) (hx : xs ≠ []) (hm : m = Nat.min xs.length n) (hn : 0 < n) (h47 : n ≤ 140737488355328)
    (hlim : (m : Int) ≤ lim) (h63 : lim ≤ 9223372036854775807) :
    Calls Tryd.prog 63 #[.pointer (some ⟨S, 0, none⟩), .slice (some ⟨D, 0, none⟩) n c] w fun e w' => e = .returned (.tuple #[.int .i64 m, .nilIface]) ∧ Stm w' Q S (lim - m) (xs.drop m) ∧ Blk w' D 5 ((xs.take m).map (Value.int .u8) ++ cur.toList.drop m).toArray ∧ FrB D Q S w w' := by
  have hQS := h.2.1
  have g1 : w.cell? ⟨S, 0, none⟩ = some (.pointer (some ⟨Q, 0, none⟩)) := h.2.2.cell 0
  have Hq := Lib.hid (qrd_some (c := c) h.1 (by omega) hD hcur hx hm hn h47)
  clear hcur hx hm
  go_enter Tryd.func63, Tryd.ntmps63
  go_wp2_with fail
  refine Hq.out.mono ?_
  rintro e w1 ⟨rfl, hi, hD1, hf⟩
  have hS1 := Lib.hid (h.frb hSD hf hi)
  have hE1 := Lib.hid (hE.frb hf (by omega) hg hg)
  have HD1 := Lib.hid hD1
  clear hi h hE hD hD1 Hq
  go_wp2_with fail
  refine (rec_in (m : Int) hS1.out (by omega) hlim h63).mono ?_
  rintro e w2 ⟨rfl, hS2, hf2⟩
  have hE2 : w2.cell? ⟨0, 0, none⟩ = some (.iface 113 (.pointer (some a0))) := hE1.out.fr hf2 (by omega) (by omega)
  have hq := run_eql_iface_nil_left (P := Tryd.prog) (w := w2) 113 (.pointer (some a0)) Tryd.underlying54
  have hlt := HD1.out.lt
  have HD2 := Lib.hid (hf2.blk HD1.out (by omega) (by omega))
  have HS2 := Lib.hid hS2
  clear hS2 hS1 hE1 HD1
  go_wp2
  go_ret2
  exact ⟨rfl, HS2.out, HD2.out, (hf.wide S).trans (FrB.of_fr (hf2.wideR Q) (by omega))⟩

set_option maxRecDepth 100000 in
/-- stream.Read inside a frame that breaks off: an error. -/
theorem srd_none {w : World} {Q S n c : Nat} {lim : Int} {B : Option Addr} {a0 : Addr} (h : Stm w Q S lim []) (hE : Eof w a0) (hg : 0 < Q) (hn : 0 < n) (hlim : 0 < lim) (h63 : lim ≤ 9223372036854775807) :
    Calls Tryd.prog 63 #[.pointer (some ⟨S, 0, none⟩), .slice B n c] w fun e w' => e = .returned (.tuple #[.int .i64 0, .iface 66 (.int .i64 262)]) ∧ Stm w' Q S lim [] ∧ Fr Q S w w' := by
  have hQS := h.2.1
  have g1 : w.cell? ⟨S, 0, none⟩ = some (.pointer (some ⟨Q, 0, none⟩)) := h.2.2.cell 0
  have hp : Tryd.prog.underlying 113 = some (.pointer 131) := Tryd.underlying113
  obtain ⟨i, hi, hcm⟩ := Option.map_eq_some_iff.1 (show (Tryd.prog.info? 113).map (·.comparable) = some true by kernel_rfl)
  obtain ⟨j, hj, _⟩ := Option.map_eq_some_iff.1 (show (Tryd.prog.info? 131).map (·.size) = some 1 by kernel_rfl)
  have HE := Lib.hid fun W : World => run_eql_iface_ptr_same (P := Tryd.prog) W a0 Tryd.underlying54 hp hi hcm hj
  have Hq := Lib.hid (qrd_none (B := B) (c := c) h.1 hE hn)
  clear hi hcm hj hp
  go_enter Tryd.func63, Tryd.ntmps63
  go_wp2_with fail
  refine Hq.out.mono ?_
  rintro e w1 ⟨rfl, hi, hf⟩
  have hS1 := Lib.hid (h.input hf hi)
  have hE1 := Lib.hid (hE.fr hf hg hg)
  clear hi h hE Hq
  go_wp2_with fail
  refine (rec_in 0 hS1.out (by omega) (by omega) h63).mono ?_
  rintro e w2 ⟨rfl, hS2, hf2⟩
  have hE2 : w2.cell? ⟨0, 0, none⟩ = some (.iface 113 (.pointer (some a0))) := hE1.out.fr hf2 (by omega) (by omega)
  have hq := HE.out w2
  rw [Int.sub_zero] at hS2
  have g2 : w2.cell? ⟨S, 1, none⟩ = some (.int .i64 lim) := hS2.2.2.cell 1
  have hl0 : (lim == 0) = false := by simp; omega
  have HS2 := Lib.hid hS2
  clear hS2 hS1 hE1 HE
  go_wp2
  go_ret2
  exact ⟨rfl, HS2.out, (hf.wide S).trans (hf2.wideR Q)⟩
end Go.Proofs.YthnaobmepfkkpaaDoor
