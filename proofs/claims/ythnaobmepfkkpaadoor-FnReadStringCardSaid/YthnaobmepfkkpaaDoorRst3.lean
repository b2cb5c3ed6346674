/- ReadString: the package's, the thin package's. -/
import Derived.Test.YthnaobmepfkkpaaDoorRst2
namespace Go.Proofs.YthnaobmepfkkpaaDoor
open Go Go.RowKit

/-- How readPrefixedString ends on a stream: a string, an error or none, what is left. -/
def RpsPost (w1 : World) (Q S : Nat) (P : ByteArray → List Int → Bool → Prop) (e : Ending) (w' : World) : Prop :=
  ∃ (f : Int) (str : ByteArray) (ev : Value) (rest : List Int) (ok : Bool), e = .returned (.tuple #[.int .u8 f, .string str, ev]) ∧ ((ev = .nilIface ∧ ok = true) ∨ (ev = .iface 66 (.int .i64 512) ∧ ok = false)) ∧ P str rest ok ∧ Inp w' Q rest ∧ Fr Q S w1 w'
/-- How ReadString ends. -/
def RsPost (w : World) (P : ByteArray → List Int → Bool → Prop) (e : Ending) (w' : World) : Prop :=
  (∃ (f : Int) (str : ByteArray) (rest : List Int) (ok : Bool) (kk : Int), e = .returned (.tuple #[.int .u8 f, .string str, .int .i64 rest.length, .int .i64 kk]) ∧ P str rest ok ∧ ((ok = true ∧ kk = 0) ∨ (ok = false ∧ kk = 512))) ∧ Below w.heap.size w w'
theorem hrs {w : World} {A : Option Addr} {n c k : Nat} {xs : List Int} {a0 au ai : Addr} {P : ByteArray → List Int → Bool → Prop} (hr : Rd .u8 w A xs) (hn : xs.length = n) (hy : Byt xs) (h47 : n ≤ 140737488355328) (hG : Glob w a0 au ai)
    (hb : ∀ (w1 : World) (Q S : Nat), Stm w1 Q S (-1) xs → Glob w1 a0 au ai → 5 < Q → Q < S → S < w1.heap.size → Calls Tryd.prog 23 #[.pointer (some ⟨S, 0, none⟩), .int .u8 k] w1 (RpsPost w1 Q S P)) :
    Calls Tryd.prog 18 #[.slice A n c, .int .u8 k] w (RsPost w P) := by
  have h0 := hG.lt
  have Hb := Lib.hid hb
  have HG := Lib.hid hG
  clear hb hG
  go_enter Tryd.func18, Tryd.ntmps18
  go_wp2_with fail
  refine (reads_any hr hn hy h47).mono ?_
  rintro e w1 ⟨Q, S, rfl, hQ, hS, hb1⟩
  have HG1 := Lib.hid (HG.out.keep (w' := w1) fun k hk => hb1.block k (by omega))
  have H := Lib.hid (Hb.out w1 Q S hS HG1.out (by omega) hS.2.1 hS.2.2.lt)
  have HB1 := Lib.hid hb1
  have hQS := hS.2.1
  clear Hb hr hn hy hS hb1
  go_wp2_with fail
  refine H.out.mono ?_
  rintro e w2 ⟨f, str, ev, rest, ok, rfl, hev, hP, hi, hf⟩
  have hb2 := Lib.hid (HB1.out.trans (hf.below hQ (by omega) HB1.out.size))
  have HG2 := Lib.hid (HG1.out.fr hf (by omega) (by omega))
  obtain ⟨A', c', out, hB, _⟩ := hi
  obtain ⟨l, HL⟩ : ∃ l, Hid (l = rest.length) := ⟨_, rfl⟩
  rw [← HL.out] at hB
  have hq : w2.cell? ⟨Q, 0, none⟩ = some (.slice A' l c') := hB.cell 0
  have HP := Lib.hid hP
  clear hf hB H HG HG1 HB1 hP
  rcases hev with ⟨rfl, rfl⟩ | ⟨rfl, rfl⟩
  · go_wp2_with fail
    go_quiet ((go_at_call 24; exact Calls.quiet_of_same (code_nil _)))
    go_wp2
    refine bodyPost_ret (results_four rfl _ _ _) rfl ?_
    exact ⟨⟨f, str, rest, true, 0, by rw [← HL.out]; rfl, HP.out, .inl ⟨rfl, rfl⟩⟩, below_drewN hb2.out _⟩
  · go_wp2_with fail
    go_quiet ((go_at_call 24; exact Calls.quiet_of_same (code_of (.inl rfl) HG2.out.eof)))
    go_wp2
    refine bodyPost_ret (results_four rfl _ _ _) rfl ?_
    exact ⟨⟨f, str, rest, false, 512, by rw [← HL.out]; rfl, HP.out, .inr ⟨rfl, rfl⟩⟩, below_drewN hb2.out _⟩
theorem irs {w : World} {v b : Value} {P : ByteArray → List Int → Bool → Prop} (h : Calls Tryd.prog 18 #[v, b] w (RsPost w P)) : Calls Tryd.prog 12 #[v, b] w (RsPost w P) := by
  have H := Lib.hid h
  clear h
  go_enter Tryd.func12, Tryd.ntmps12
  go_wp2_with fail
  refine H.out.mono ?_
  rintro e w1 ⟨⟨f, str, rest, ok, kk, rfl, hP, hk⟩, hb⟩
  have HP := Lib.hid hP
  have HK := Lib.hid hk
  have HB := Lib.hid hb
  obtain ⟨l, hl⟩ : ∃ l, l = rest.length := ⟨_, rfl⟩
  rw [← hl]
  have HL := Lib.hid hl
  clear hP hk hb hl
  go_wp2
  refine bodyPost_ret (results_four rfl _ _ _) rfl ?_
  exact ⟨⟨f, str, rest, ok, kk, by rw [← HL.out]; rfl, HP.out, HK.out⟩, HB.out⟩

/-- The string's length can't be read. -/
theorem rps_err {w1 : World} {Q S k : Nat} {x : Int} {r : List Int} {a0 au ai : Addr} (hS : Stm w1 Q S (-1) (x :: r)) (hG : Glob w1 a0 au ai) (h5 : 5 < Q)
    (hb : ∀ w2, Stm w2 Q S (-1) r → Glob w2 a0 au ai → Calls Tryd.prog 33 #[.pointer (some ⟨S, 0, none⟩), .int .u8 x, .int .u8 k] w2 fun e w' => e = .returned (.tuple #[.int .i64 0, .iface 66 (.int .i64 512)]) ∧ Inp w' Q [] ∧ Fr Q Q w2 w') :
    Calls Tryd.prog 23 #[.pointer (some ⟨S, 0, none⟩), .int .u8 k] w1 (RpsPost w1 Q S fun _ _ ok => ok = false) := by
  refine (rps_cons (R := fun _ ev w2 w' => ev = .iface 66 (.int .i64 512) ∧ Inp w' Q [] ∧ Fr Q Q w2 w') hS (by omega) fun w2 h2 hf2 => ?_).mono ?_
  · refine (rsw_err (hb w2 h2 (hG.fr hf2 h5 h5))).mono ?_
    rintro e w' ⟨rfl, hi, hf⟩
    exact ⟨_, _, rfl, .inr ⟨_, _, rfl⟩, rfl, hi, hf⟩
  · rintro e w' ⟨str, ev, rfl, w2, hf2, rfl, hi, hf⟩
    exact ⟨x, str, _, [], false, rfl, .inr ⟨rfl, rfl⟩, rfl, hi, (hf2.trans hf).wide S⟩
/-- The string breaks off. -/
theorem rps_cut {w1 : World} {Q S k N : Nat} {x : Int} {r r2 : List Int} {a0 au ai : Addr} (hS : Stm w1 Q S (-1) (x :: r)) (hG : Glob w1 a0 au ai) (h5 : 5 < Q) (hQS : Q < S) (hSw : S < w1.heap.size)
    (hb : ∀ w2, Stm w2 Q S (-1) r → Calls Tryd.prog 33 #[.pointer (some ⟨S, 0, none⟩), .int .u8 x, .int .u8 k] w2 fun e w' => e = .returned (.tuple #[.int .i64 (N : Int), .nilIface]) ∧ Stm w' Q S (-1) r2 ∧ Fr Q Q w2 w')
    (hN : r2.length < N) (h20 : N ≤ 1048576) :
    Calls Tryd.prog 23 #[.pointer (some ⟨S, 0, none⟩), .int .u8 k] w1 (RpsPost w1 Q S fun _ _ ok => ok = false) := by
  refine (rps_cons (R := fun _ ev w2 w' => ev = .iface 66 (.int .i64 512) ∧ Inp w' Q [] ∧ Fr Q S w2 w') hS (by omega) fun w2 h2 hf2 => ?_).mono ?_
  · refine (rsw_cut (hG.fr hf2 h5 h5) h5 hQS (by have := hf2.size; omega) (hb w2 h2) hN h20 (by omega)).mono ?_
    rintro e w' ⟨rfl, hi, hf⟩
    exact ⟨_, _, rfl, .inr ⟨_, _, rfl⟩, rfl, hi, hf⟩
  · rintro e w' ⟨str, ev, rfl, w2, hf2, rfl, hi, hf⟩
    exact ⟨x, str, _, [], false, rfl, .inr ⟨rfl, rfl⟩, rfl, hi, (hf2.wide S).trans hf⟩
/-- What the reader finds where the string's bytes are all there. -/
def Found (x : Int) (k : Nat) (ys : List Nat) (more : List Int) (str : ByteArray) (rest : List Int) (ok : Bool) : Prop :=
  rest = more ∧ ((x / 2 ^ k % 2 = 0 ∧ ok = true ∧ str = strOfNums (nz ys)) ∨ (x / 2 ^ k % 2 = 1 ∧ ((ok = true ∧ Unh ys str true) ∨ (ok = false ∧ ∃ s, Unh ys s false))))
theorem rps_ok {w1 : World} {Q S k N : Nat} {x : Int} {r more : List Int} {ys : List Nat} {a0 au ai : Addr} (hS : Stm w1 Q S (-1) (x :: r)) (hG : Glob w1 a0 au ai) (h5 : 5 < Q) (hQS : Q < S) (hSw : S < w1.heap.size)
    (hb : ∀ w2, Stm w2 Q S (-1) r → Calls Tryd.prog 33 #[.pointer (some ⟨S, 0, none⟩), .int .u8 x, .int .u8 k] w2 fun e w' => e = .returned (.tuple #[.int .i64 (N : Int), .nilIface]) ∧ Stm w' Q S (-1) (nz ys ++ more) ∧ Fr Q Q w2 w')
    (hx0 : 0 ≤ x) (hx1 : x ≤ 255) (h7 : k ≤ 7) (hN : ys.length = N) (hy : ∀ y ∈ ys, y < 256) (h20 : N ≤ 1048576) :
    Calls Tryd.prog 23 #[.pointer (some ⟨S, 0, none⟩), .int .u8 k] w1 (RpsPost w1 Q S (Found x k ys more)) := by
  refine (rps_cons (R := fun sv ev w2 w' => ∃ str ok, sv = .string str ∧ ((ev = .nilIface ∧ ok = true) ∨ (ev = .iface 66 (.int .i64 512) ∧ ok = false)) ∧ Found x k ys more str more ok ∧ Inp w' Q more ∧ Fr Q S w2 w') hS (by omega) fun w2 h2 hf2 => ?_).mono ?_
  · refine (rsw_ok (hG.fr hf2 h5 h5) h5 hQS (by have := hf2.size; omega) (hb w2 h2) hx0 hx1 h7 hN hy h20 (by omega)).mono ?_
    rintro e w' ⟨hres, hi, hf⟩
    rcases hres with ⟨hbit, rfl⟩ | ⟨hbit, ⟨str, rfl, hu⟩ | ⟨rfl, hu⟩⟩
    · exact ⟨_, _, rfl, .inl rfl, _, true, rfl, .inl ⟨rfl, rfl⟩, ⟨rfl, .inl ⟨hbit, rfl, rfl⟩⟩, hi, hf⟩
    · exact ⟨_, _, rfl, .inl rfl, _, true, rfl, .inl ⟨rfl, rfl⟩, ⟨rfl, .inr ⟨hbit, .inl ⟨rfl, hu⟩⟩⟩, hi, hf⟩
    · exact ⟨_, _, rfl, .inr ⟨_, _, rfl⟩, _, false, rfl, .inr ⟨rfl, rfl⟩, ⟨rfl, .inr ⟨hbit, .inr ⟨rfl, hu⟩⟩⟩, hi, hf⟩
  · rintro e w' ⟨str, ev, rfl, w2, hf2, str', ok, hsv, hev, hF, hi, hf⟩
    injection hsv with hsv
    subst hsv
    exact ⟨x, str, ev, more, ok, rfl, hev, hF, hi, (hf2.wide S).trans hf⟩
theorem rps_nil' {w1 : World} {Q S k : Nat} {a0 au ai : Addr} (hS : Stm w1 Q S (-1) []) (hG : Glob w1 a0 au ai) (h5 : 5 < Q) :
    Calls Tryd.prog 23 #[.pointer (some ⟨S, 0, none⟩), .int .u8 k] w1 (RpsPost w1 Q S fun _ _ ok => ok = false) := by
  refine (rps_nil hS (by omega) hG.eof (by show 0 < Q; omega)).mono ?_
  rintro e w' ⟨rfl, hi, hf⟩
  exact ⟨0, _, _, [], false, rfl, .inr ⟨rfl, rfl⟩, rfl, hi, hf.wide S⟩
end Go.Proofs.YthnaobmepfkkpaaDoor
