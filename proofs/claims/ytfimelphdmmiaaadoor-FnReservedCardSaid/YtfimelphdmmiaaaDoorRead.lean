/- The walks of the stream's readers: a byte, the count against the limit, a variable-length integer, an error's number. -/
import Derived.Test.YtfimelphdmmiaaaDoorNum
import Derived.RegionTactic
import Derived.Deep.QuietTactic
import Derived.BigQuiet
import Derived.WalkSpells
import Derived.WalkLawsBesides
import Derived.Outline
import Derived.Handy
import Derived.LaidEql
namespace Go.Proofs.YtfimelphdmmiaaaDoor
open Go Go.RowKit

/-- quicStream.ReadByte: a byte is there. -/
theorem qrb_cons {w : World} {Q : Nat} {x : Int} {xs : List Int} (h : Inp w Q (x :: xs)) :
    Calls Tryd.prog 63 #[.pointer (some ⟨Q, 0, none⟩)] w fun e w' => e = .returned (.tuple #[.int .u8 x, .nilIface]) ∧ Inp w' Q xs ∧ Fr Q Q w w' := by
  obtain ⟨A, c, out, hb, h1, h2, hr, hA, hy⟩ := h
  obtain ⟨b, off, rfl, h0⟩ := hr.head
  have hbQ : b < Q := hA _ rfl
  have hQ : w.cell? ⟨Q, 0, none⟩ = some (.slice (some ⟨b, off, none⟩) (xs.length + 1) c) := hb.cell 0
  have fQ := hb.frozen 0
  have hn : xs.length + 1 ≤ c := h1
  have fin : ∀ A', (∀ ad, A' = some ad → ad.block < Q) → Rd .u8 w A' xs → Inp (w.setCell ⟨Q, 0, none⟩ (.slice A' xs.length (c - 1))) Q xs ∧ Fr Q Q w (w.setCell ⟨Q, 0, none⟩ (.slice A' xs.length (c - 1))) := fun A' hA' hR =>
    ⟨⟨A', c - 1, out, by simpa using hb.put 0 (.slice A' xs.length (c - 1)), by omega, by omega, hR.keep (fun p ⟨a, ha, e⟩ _ => World.cell?_of_block (w := w) (Below.heap_setCell _ _ _ _ (by have := hA' a ha; simp; omega))), hA', hy.tail⟩, (Fr.refl Q Q w).setCell (.inl rfl) _⟩
  have f1 := Lib.hid (fin (some ⟨b, off + 1, none⟩) (fun ad e => by cases e; exact hbQ) hr.tail)
  have f2 := Lib.hid (fun (e : xs = []) => fin (some ⟨b, off, none⟩) (fun ad e => by cases e; exact hbQ) (by rw [e]; exact Rd.nil _ _ _))
  clear fin hb hr hA hy h1
  by_cases hc1 : c = 1
  · have hx : xs = [] := List.eq_nil_of_length_eq_zero (by omega)
    have f2 := f2.out hx
    subst hc1
    have H2 := Lib.hid f2
    clear f2 f1
    subst hx
    go_enter Tryd.func63, Tryd.ntmps63
    go_wp2
    go_ret2
    exact ⟨rfl, H2.out⟩
  · go_enter Tryd.func63, Tryd.ntmps63
    go_wp2
    go_ret2
    exact ⟨rfl, f1.out⟩

/-- quicStream.ReadByte: nothing is left. -/
theorem qrb_nil {w : World} {Q : Nat} {a0 : Addr} (h : Inp w Q []) (hE : Eof w a0) :
    Calls Tryd.prog 63 #[.pointer (some ⟨Q, 0, none⟩)] w fun e w' => e = .returned (.tuple #[.int .u8 0, .iface 110 (.pointer (some a0))]) ∧ Inp w' Q [] ∧ Fr Q Q w w' := by
  have hi := Lib.hid h
  obtain ⟨A, c, out, hb, _⟩ := h
  have hQ : w.cell? ⟨Q, 0, none⟩ = some (.slice A 0 c) := hb.cell 0
  have fQ := hb.frozen 0
  unfold Eof at hE
  clear hb
  go_enter Tryd.func63, Tryd.ntmps63
  go_wp2
  go_quiet (fail)
  go_wp2
  go_ret2
  exact ⟨rfl, hi.out.keep fun _ _ => rfl, (Fr.refl Q Q w).drewN _⟩

/-- recordBytesRead: without a limit nothing is done. -/
theorem rec_no {w : World} {Q S : Nat} {lim : Int} {xs : List Int} (n : Int) (h : Stm w Q S lim xs) (hl : lim < 0) :
    Calls Tryd.prog 64 #[.pointer (some ⟨S, 0, none⟩), .int .i64 n] w fun e w' => e = .returned .nilIface ∧ w = w' := by
  have h1 := h.2.2.cell 1
  clear h
  simp only [List.getElem?_toArray, List.getElem?_cons_succ, List.getElem?_cons_zero] at h1
  go_enter Tryd.func64, Tryd.ntmps64
  go_wp2
  go_ret
  exact ⟨rfl, rfl⟩

/-- recordBytesRead: within the limit. -/
theorem rec_in {w : World} {Q S : Nat} {lim : Int} {xs : List Int} (n : Int) (h : Stm w Q S lim xs) (hn : 0 ≤ n) (hl : n ≤ lim) (h63 : lim ≤ 9223372036854775807) :
    Calls Tryd.prog 64 #[.pointer (some ⟨S, 0, none⟩), .int .i64 n] w fun e w' => e = .returned .nilIface ∧ Stm w' Q S (lim - n) xs ∧ Fr S S w w' := by
  have h1 := h.2.2.cell 1
  have f1 := h.2.2.frozen 1
  have H := Lib.hid h
  clear h
  simp only [List.getElem?_toArray, List.getElem?_cons_succ, List.getElem?_cons_zero] at h1
  go_enter Tryd.func64, Tryd.ntmps64
  go_wp2
  go_ret
  exact ⟨rfl, H.out.lim_ _, (Fr.refl S S w).setCell (.inl rfl) _⟩

/-- recordBytesRead: past the limit: an error; the stream is cut off. -/
theorem rec_past {w : World} {Q S : Nat} {lim : Int} {xs : List Int} {a0 : Addr} (n : Int) (h : Stm w Q S lim xs) (h0 : 0 ≤ lim) (hl : lim < n) (h63 : n ≤ 9223372036854775807) :
    Calls Tryd.prog 64 #[.pointer (some ⟨S, 0, none⟩), .int .i64 n] w fun e w' => (∃ ev, e = .returned ev ∧ ev ≠ .nilIface ∧ Bad w' a0 ev) ∧ Inp w' Q xs ∧ Fr S S w w' := by
  have h1 := h.2.2.cell 1
  have f1 := h.2.2.frozen 1
  have g1 := h.2.2.cell 0
  have f0 := h.2.2.frozen 0
  have H := Lib.hid h
  clear h
  simp only [List.getElem?_toArray, List.getElem?_cons_succ, List.getElem?_cons_zero] at h1 g1
  go_enter Tryd.func64, Tryd.ntmps64
  go_wp2
  go_ret
  have H := H.out
  have hlt := H.2.2.lt
  refine ⟨⟨_, rfl, by simp, 262, by decide, by decide, by decide, .inr (.inr (.inl ⟨w.heap.size, rfl, ?_⟩))⟩, ?_, ?_⟩
  · have := (Blk.new ((w.setCell ⟨S, 1, none⟩ (.int .i64 (lim - n))).setCell ⟨S, 0, none⟩ (.pointer none)) 98 #[.int .i64 262, .string ⟨#[105, 110, 118, 97, 108, 105, 100, 32, 72, 84, 84, 80, 47, 51, 32, 102, 114, 97, 109, 101]⟩]).cell 0
    simpa [World.setCell] using this
  · refine H.1.keep fun k hk => ?_
    have := H.2.1
    rw [Below.heap_alloc _ _ _ (by simp [World.setCell]; omega), Below.heap_setCell _ _ _ _ (by simp; omega), Below.heap_setCell _ _ _ _ (by simp; omega)]
  · exact (((Fr.refl S S w).setCell (.inl rfl) _).setCell (.inl rfl) _).alloc _

theorem rv_ok {w : World} {Q S : Nat} {lim lim' x : Int} {r : List Int} (h : Stm w Q S lim (x :: r)) (hl : vlen x ≤ r.length + 1)
    (hrec : ∀ w1, Stm w1 Q S lim (r.drop (vlen x - 1)) → Calls Tryd.prog 64 #[.pointer (some ⟨S, 0, none⟩), .int .i64 (vlen x)] w1 fun e w' => e = .returned .nilIface ∧ Stm w' Q S lim' (r.drop (vlen x - 1)) ∧ Fr S S w1 w') :
    Calls Tryd.prog 48 #[.pointer (some ⟨S, 0, none⟩)] w fun e w' => e = .returned (.tuple #[.int .i64 (vat x r (vlen x - 1)), .nilIface]) ∧ Stm w' Q S lim' (r.drop (vlen x - 1)) ∧ Fr Q S w w' := by
  have Hrec := Lib.hid hrec
  clear hrec
  have g1 : w.cell? ⟨S, 0, none⟩ = some (.pointer (some ⟨Q, 0, none⟩)) := h.2.2.cell 0
  have hx := h.1
  obtain ⟨_, _, _, _, _, _, _, _, hy⟩ := hx
  obtain ⟨hx0, hx1⟩ := hy.head
  have Hr : Hid (Byt r) := hy.tail
  clear hy
  have hn := vlen_pow x hx0 hx1
  obtain ⟨hv1, hv8⟩ := vlen_pos x
  go_enter Tryd.func48, Tryd.ntmps48
  go_wp2_with fail
  refine (qrb_cons h.1).mono ?_
  rintro e w1 ⟨rfl, hi, hf⟩
  go_wp2_with fail
  have hS := h.input hf hi
  rw [hn]
  clear g1 h hi hn
  go_loopw [2, 6] (fun v i wr => ∃ j : Nat, j + 1 ≤ vlen x ∧ i = .int .i64 ((j : Int) + 1) ∧ v = .int .i64 (vat x r j) ∧ Stm wr Q S lim (r.drop j) ∧ Fr Q Q w wr) (fun _ i _ => vlen x + 1 - (intOf i).toNat)
  case atStart => exact ⟨0, by omega, rfl, rfl, hS, hf⟩
  case round =>
    obtain ⟨j, hj, rfl, rfl, hSr, hFr⟩ := hrel
    have g1 : wr.cell? ⟨S, 0, none⟩ = some (.pointer (some ⟨Q, 0, none⟩)) := hSr.2.2.cell 0
    by_cases hlt : j + 1 < vlen x
    · have hjr : j < r.length := by omega
      obtain ⟨hb0, hb1⟩ := vat_small x Hr.out (j := j) (by omega) (by omega)
      obtain ⟨hc0, hc1⟩ := Hr.out.nth j
      have hor := or_byte (vat x r j) (nth r j) hb0 hb1 hc0 hc1
      have hsh : wrap64 (vat x r j * 256) = vat x r j * 256 := IntWalk.wrap64_in _ (by omega)
      have hin := hSr.1
      rw [drop_cons hjr] at hin
      have Hin := Lib.hid hin
      clear hin
      go_wp2_with fail
      refine (qrb_cons Hin.out).mono ?_
      rintro e w2 ⟨rfl, hi2, hf2⟩
      have hS2 := hSr.input hf2 hi2
      clear g1 hSr hi2
      go_wp2_with fail
      have hvs := vat_succ x hjr
      go_roundw
      case rel => exact ⟨j + 1, by omega, by go_num, by rw [hvs], hS2, hFr.trans hf2⟩
      case measure => simp [intOf]; omega
    · obtain rfl : j = vlen x - 1 := by omega
      have hc := Lib.hid (Hrec.out wr hSr)
      clear hSr Hrec
      go_wp2_with fail
      refine hc.out.mono ?_
      rintro e w2 ⟨rfl, hS2, hf2⟩
      go_wp2_with fail
      go_ret2
      exact ⟨rfl, hS2, (hFr.wide S).trans (hf2.wideR Q)⟩
end Go.Proofs.YtfimelphdmmiaaaDoor
