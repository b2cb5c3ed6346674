/- The walks of the stream's readers: a byte, the count against the limit, a variable-length integer, an error's number. -/
import Derived.Test.YthnaobmepfkkpaaDoorNum
import Derived.RegionTactic
import Derived.Deep.QuietTactic
import Derived.BigQuiet
import Derived.WalkSpells
import Derived.WalkLawsBesides
import Derived.Outline
import Derived.Handy
import Derived.LaidEql
namespace Go.Proofs.YthnaobmepfkkpaaDoor
open Go Go.RowKit

/-- quicStream.ReadByte: a byte is there. -/
theorem qrb_cons {w : World} {Q : Nat} {x : Int} {xs : List Int} (h : Inp w Q (x :: xs)) :
    Calls Tryd.prog 32 #[.pointer (some ⟨Q, 0, none⟩)] w fun e w' => e = .returned (.tuple #[.int .u8 x, .nilIface]) ∧ Inp w' Q xs ∧ Fr Q Q w w' := by
  obtain ⟨A, c, out, hb, h1, h2, hr, hA, hy⟩ := h
  obtain ⟨b, off, rfl, h0⟩ := hr.head
  have hbQ : b < Q := hA _ rfl
  have hQ : w.cell? ⟨Q, 0, none⟩ = some (.slice (some ⟨b, off, none⟩) (xs.length + 1) c) := hb.cell 0
  have fQ := hb.frozen 0
  have hn : xs.length + 1 ≤ c := h1
  have fin : ∀ A', (∀ ad, A' = some ad → ad.block < Q) → Rd .u8 w A' xs → Inp (w.setCell ⟨Q, 0, none⟩ (.slice A' xs.length (c - 1))) Q xs ∧ Fr Q Q w (w.setCell ⟨Q, 0, none⟩ (.slice A' xs.length (c - 1))) := fun A' hA' hR =>
    ⟨⟨A', c - 1, out, by simpa using hb.put 0 (.slice A' xs.length (c - 1)), by omega, by omega, hR.keep (fun p ⟨a, ha, e⟩ _ => World.cell?_of_block (w := w) (Below.heap_setCell _ _ _ _ (by have := hA' a ha; simp; omega))), hA', hy.tail⟩, (Fr.refl Q Q w).setCell (.inl rfl) _⟩
  have f1 := Lib.hid (fin (some ⟨b, off + 1, none⟩) (fun ad e => by cases e; exact hbQ) hr.tail)
  have f2 := Lib.hid (fun (e : xs = []) => fin (some ⟨b, off, none⟩) (fun ad e => by cases e; exact hbQ) (by rw [e]; exact Rd.nil _ _ _))
  clear fin hb hr hA hy h1
  by_cases hc1 : c = 1
  · have hx : xs = [] := List.eq_nil_of_length_eq_zero (by omega)
    have f2 := f2.out hx
    subst hc1
    have H2 := Lib.hid f2
    clear f2 f1
    subst hx
    go_enter Tryd.func32, Tryd.ntmps32
    go_wp2
    go_ret2
    exact ⟨rfl, H2.out⟩
  · go_enter Tryd.func32, Tryd.ntmps32
    go_wp2
    go_ret2
    exact ⟨rfl, f1.out⟩

/-- quicStream.ReadByte: nothing is left. -/
theorem qrb_nil {w : World} {Q : Nat} {a0 : Addr} (h : Inp w Q []) (hE : Eof w a0) :
    Calls Tryd.prog 32 #[.pointer (some ⟨Q, 0, none⟩)] w fun e w' => e = .returned (.tuple #[.int .u8 0, .iface 113 (.pointer (some a0))]) ∧ Inp w' Q [] ∧ Fr Q Q w w' := by
  have hi := Lib.hid h
  obtain ⟨A, c, out, hb, _⟩ := h
  have hQ : w.cell? ⟨Q, 0, none⟩ = some (.slice A 0 c) := hb.cell 0
  have fQ := hb.frozen 0
  unfold Eof at hE
  clear hb
  go_enter Tryd.func32, Tryd.ntmps32
  go_wp2
  go_quiet (fail)
  go_wp2
  go_ret2
  exact ⟨rfl, hi.out.keep fun _ _ => rfl, (Fr.refl Q Q w).drewN _⟩

/-- recordBytesRead: without a limit nothing is done. -/
theorem rec_no {w : World} {Q S : Nat} {lim : Int} {xs : List Int} (n : Int) (h : Stm w Q S lim xs) (hl : lim < 0) :
    Calls Tryd.prog 31 #[.pointer (some ⟨S, 0, none⟩), .int .i64 n] w fun e w' => e = .returned .nilIface ∧ w = w' := by
  have h1 := h.2.2.cell 1
  clear h
  simp only [List.getElem?_toArray, List.getElem?_cons_succ, List.getElem?_cons_zero] at h1
  go_enter Tryd.func31, Tryd.ntmps31
  go_wp2
  go_ret
  exact ⟨rfl, rfl⟩

/-- recordBytesRead: within the limit. -/
theorem rec_in {w : World} {Q S : Nat} {lim : Int} {xs : List Int} (n : Int) (h : Stm w Q S lim xs) (hn : 0 ≤ n) (hl : n ≤ lim) (h63 : lim ≤ 9223372036854775807) :
    Calls Tryd.prog 31 #[.pointer (some ⟨S, 0, none⟩), .int .i64 n] w fun e w' => e = .returned .nilIface ∧ Stm w' Q S (lim - n) xs ∧ Fr S S w w' := by
  have h1 := h.2.2.cell 1
  have f1 := h.2.2.frozen 1
  have H := Lib.hid h
  clear h
  simp only [List.getElem?_toArray, List.getElem?_cons_succ, List.getElem?_cons_zero] at h1
  go_enter Tryd.func31, Tryd.ntmps31
  go_wp2
  go_ret
  exact ⟨rfl, H.out.lim_ _, (Fr.refl S S w).setCell (.inl rfl) _⟩

/-- recordBytesRead: past the limit: an error; the stream is cut off. -/
theorem rec_past {w : World} {Q S : Nat} {lim : Int} {xs : List Int} {a0 : Addr} (n : Int) (h : Stm w Q S lim xs) (h0 : 0 ≤ lim) (hl : lim < n) (h63 : n ≤ 9223372036854775807) :
    Calls Tryd.prog 31 #[.pointer (some ⟨S, 0, none⟩), .int .i64 n] w fun e w' => (∃ ev, e = .returned ev ∧ ev ≠ .nilIface ∧ Bad w' a0 ev) ∧ Inp w' Q xs ∧ Fr S S w w' := by
  have h1 := h.2.2.cell 1
  have f1 := h.2.2.frozen 1
  have g1 := h.2.2.cell 0
  have f0 := h.2.2.frozen 0
  have H := Lib.hid h
  clear h
  simp only [List.getElem?_toArray, List.getElem?_cons_succ, List.getElem?_cons_zero] at h1 g1
  go_enter Tryd.func31, Tryd.ntmps31
  go_wp2
  go_ret
  have H := H.out
  have hlt := H.2.2.lt
  refine ⟨⟨_, rfl, by simp, 262, by decide, by decide, by decide, .inr (.inr (.inl ⟨w.heap.size, rfl, ?_⟩))⟩, ?_, ?_⟩
  · have := (Blk.new ((w.setCell ⟨S, 1, none⟩ (.int .i64 (lim - n))).setCell ⟨S, 0, none⟩ (.pointer none)) 73 #[.int .i64 262, .string ⟨#[105, 110, 118, 97, 108, 105, 100, 32, 72, 84, 84, 80, 47, 51, 32, 102, 114, 97, 109, 101]⟩]).cell 0
    simpa [World.setCell] using this
  · refine H.1.keep fun k hk => ?_
    have := H.2.1
    rw [Below.heap_alloc _ _ _ (by simp [World.setCell]; omega), Below.heap_setCell _ _ _ _ (by simp; omega), Below.heap_setCell _ _ _ _ (by simp; omega)]
  · exact (((Fr.refl S S w).setCell (.inl rfl) _).setCell (.inl rfl) _).alloc _

end Go.Proofs.YthnaobmepfkkpaaDoor
