/- ReadInt: the package's, the thin package's. -/
import Derived.Test.YtfimelphdmmiaaaDoorInt2
namespace Go.Proofs.YtfimelphdmmiaaaDoor
open Go Go.RowKit

/-- ReadInt hands on what readPrefixedInt gives; how many bytes are left; the error's number. -/
theorem hri {w : World} {A : Option Addr} {n c k : Nat} {xs ys : List Int} {a0 : Addr} {f v kk : Int} {ev : Value} (hr : Rd .u8 w A xs) (hn : xs.length = n) (hy : Byt xs) (h47 : n ≤ 140737488355328) (hE : Eof w a0)
    (hk : (ev = .nilIface ∧ kk = 0) ∨ ∀ W, EC W a0 ev kk)
    (hb : ∀ (w1 : World) (Q S : Nat), Stm w1 Q S (-1) xs → Eof w1 a0 → 0 < Q → Calls Tryd.prog 50 #[.pointer (some ⟨S, 0, none⟩), .int .u8 k] w1 fun e w' => e = .returned (.tuple #[.int .u8 f, .int .i64 v, ev]) ∧ Inp w' Q ys ∧ Fr Q Q w1 w') :
    Calls Tryd.prog 37 #[.slice A n c, .int .u8 k] w fun e w' => e = .returned (.tuple #[.int .u8 f, .int .i64 v, .int .i64 ys.length, .int .i64 kk]) ∧ Below w.heap.size w w' := by
  have h0 : 0 < w.heap.size := cell_lt hE
  have Hb := Lib.hid hb
  have Hk := Lib.hid hk
  clear hb hk
  go_enter Tryd.func37, Tryd.ntmps37
  go_wp2_with fail
  refine (reads_any hr hn hy h47).mono ?_
  rintro e w1 ⟨Q, S, rfl, hQ, hS, hb1⟩
  have hE1 := hE.below hb1 h0
  have H := Lib.hid (Hb.out w1 Q S hS hE1 (by omega))
  clear Hb hr hn hy
  go_wp2_with fail
  refine H.out.mono ?_
  rintro e w2 ⟨rfl, hi, hf⟩
  have hQS := hS.2.1
  have hb2 := Lib.hid (hb1.trans (hf.below hQ hQ hb1.size))
  have hE2 := Lib.hid (hE.below hb2.out h0)
  obtain ⟨A', c', out, hB, _⟩ := hi
  obtain ⟨l, HL⟩ : ∃ l, Hid (l = ys.length) := ⟨_, rfl⟩
  rw [← HL.out] at hB
  have hq : w2.cell? ⟨Q, 0, none⟩ = some (.slice A' l c') := hB.cell 0
  have HC : Hid (∀ W, Eof W a0 → Calls Tryd.prog 49 #[ev] W fun e w' => e = .returned (.int .i64 kk) ∧ w' = W) := by
    intro W hW
    rcases Hk.out with ⟨rfl, rfl⟩ | h
    · exact code_nil W
    · exact code_of (h W) hW
  clear hS hb1 hf hB hE hE1 H Hk
  go_wp2_with fail
  go_quiet ((go_at_call 49; exact Calls.quiet_of_same (HC.out _ hE2.out)))
  go_wp2
  refine bodyPost_ret (results_four rfl _ _ _) rfl ?_
  exact ⟨by rw [← HL.out]; rfl, below_drewN hb2.out _⟩

theorem iri {w : World} {v b : Value} {f a l k : Int} (h : Calls Tryd.prog 37 #[v, b] w fun e w' => e = .returned (.tuple #[.int .u8 f, .int .i64 a, .int .i64 l, .int .i64 k]) ∧ Below w.heap.size w w') :
    Calls Tryd.prog 19 #[v, b] w fun e w' => e = .returned (.tuple #[.int .u8 f, .int .i64 a, .int .i64 l, .int .i64 k]) ∧ Below w.heap.size w w' := by
  have H := Lib.hid h
  clear h
  go_enter Tryd.func19, Tryd.ntmps19
  go_wp2_with fail
  refine H.out.mono ?_
  rintro e w1 ⟨rfl, hb⟩
  go_wp2
  refine bodyPost_ret (results_four rfl _ _ _) rfl ?_
  exact ⟨rfl, hb⟩

section
variable {w : World} {A : Option Addr} {n c k : Nat} {x : Int} {r : List Int} {a0 : Addr}
theorem ri_nil (hE : Eof w a0) : Calls Tryd.prog 19 #[.slice A 0 c, .int .u8 k] w fun e w' => e = .returned (.tuple #[.int .u8 0, .int .i64 0, .int .i64 0, .int .i64 512]) ∧ Below w.heap.size w w' :=
  iri (hri (xs := []) (ys := []) (Rd.nil _ _ _) rfl Byt.nil (Nat.zero_le _) hE (.inr fun _ => .inl rfl) fun w1 Q S hS hE1 hQ => rpi_nil hS (by omega) hE1 hQ)
theorem ri_small (hr : Rd .u8 w A (x :: r)) (hn : (x :: r).length = n) (hy : Byt (x :: r)) (h47 : n ≤ 140737488355328) (hE : Eof w a0) (h1 : 1 ≤ k) (h8 : k ≤ 8) (hl : low x k < most k) :
    Calls Tryd.prog 19 #[.slice A n c, .int .u8 k] w fun e w' => e = .returned (.tuple #[.int .u8 x, .int .i64 (low x k), .int .i64 r.length, .int .i64 0]) ∧ Below w.heap.size w w' :=
  iri (hri (ev := .nilIface) hr hn hy h47 hE (.inl ⟨rfl, rfl⟩) fun w1 Q S hS _ _ =>
    (rpi_cons (R := fun w1 w' => w1 = w' ∧ Inp w1 Q r) hS (by omega) fun w2 h2 _ => (rpb_small hy.head.1 hy.head.2 h1 h8 hl).mono fun _ _ ⟨he, hw⟩ => ⟨he, hw, h2.1⟩).mono fun _ _ ⟨he, w2, hf, hw, hi⟩ => ⟨he, hw ▸ hi, hw ▸ hf⟩)
theorem ri_ok {t : Nat} (hr : Rd .u8 w A (x :: r)) (hn : (x :: r).length = n) (hy : Byt (x :: r)) (h47 : n ≤ 140737488355328) (hE : Eof w a0) (h1 : 1 ≤ k) (h8 : k ≤ 8) (hl : low x k = most k)
    (ht8 : t ≤ 8) (ht : t < r.length) (hC : Cont r t) (hT : nth r t < 128) (hfit : most k + pat r (t + 1) ≤ 9223372036854775807) :
    Calls Tryd.prog 19 #[.slice A n c, .int .u8 k] w fun e w' => e = .returned (.tuple #[.int .u8 x, .int .i64 (most k + pat r (t + 1)), .int .i64 (r.drop (t + 1)).length, .int .i64 0]) ∧ Below w.heap.size w w' :=
  iri (hri (ev := .nilIface) hr hn hy h47 hE (.inl ⟨rfl, rfl⟩) fun w1 Q S hS _ _ =>
    (rpi_cons (R := fun w1 w' => Inp w' Q (r.drop (t + 1)) ∧ Fr Q Q w1 w') hS (by omega) fun w2 h2 _ => (rpb_ok h2 (by omega) hy.head.1 hy.head.2 h1 h8 hl ht8 ht hC hT hfit).mono fun _ _ ⟨he, hw, hf⟩ => ⟨he, hw.1, hf⟩).mono fun _ _ ⟨he, w2, hf, hw, hi⟩ => ⟨he, hw, hf.trans hi⟩)
theorem ri_short (hr : Rd .u8 w A (x :: r)) (hn : (x :: r).length = n) (hy : Byt (x :: r)) (h47 : n ≤ 140737488355328) (hE : Eof w a0) (h1 : 1 ≤ k) (h8 : k ≤ 8) (hl : low x k = most k)
    (ht9 : r.length ≤ 9) (hC : Cont r r.length) :
    Calls Tryd.prog 19 #[.slice A n c, .int .u8 k] w fun e w' => e = .returned (.tuple #[.int .u8 x, .int .i64 0, .int .i64 0, .int .i64 512]) ∧ Below w.heap.size w w' :=
  iri (hri (ys := []) hr hn hy h47 hE (.inr fun _ => .inl rfl) fun w1 Q S hS hE1 hQ =>
    (rpi_cons (R := fun w1 w' => Inp w' Q [] ∧ Fr Q Q w1 w') hS (by omega) fun w2 h2 hf2 => rpb_short h2 (by omega) hy.head.1 hy.head.2 h1 h8 hl ht9 hC (hE1.fr hf2 hQ hQ) hQ).mono fun _ _ ⟨he, w2, hf, hw, hi⟩ => ⟨he, hw, hf.trans hi⟩)
end
end Go.Proofs.YtfimelphdmmiaaaDoor
