/- Walks of readFrameHeader, ReadFrame, ReadHeader; of the reference's Frame. -/
import Derived.Test.YtfimelphdmmiaaaDoorFrm3
import Derived.Test.YtfimelphdmmiaaaDoorFnVarintWalk
namespace Go.Proofs.YtfimelphdmmiaaaDoor
open Go Go.RowKit

/-- readVarint of what venc writes, no limit. -/
theorem rv_venc {w : World} {Q S K : Nat} {lim n : Int} {rest : List Int} (h : Stm w Q S lim (venc K n ++ rest)) (hK : K ≤ 3) (h0 : 0 ≤ n) (h1 : n < vtop K) (hl : lim < 0) :
    Calls Tryd.prog 48 #[.pointer (some ⟨S, 0, none⟩)] w fun e w' => e = .returned (.tuple #[.int .i64 n, .nilIface]) ∧ Stm w' Q S lim rest ∧ Fr Q S w w' := by
  obtain ⟨x, r, e, hv, hlen, hat, _⟩ := venc_read hK h0 h1 rest
  rw [e, List.cons_append] at h
  have h2 := rv_free h (by simp; omega) hl
  rw [hv, hat, show (r ++ rest).drop (2 ^ K - 1) = rest by rw [← hlen, Nat.add_sub_cancel, List.drop_left]] at h2
  exact h2
/-- .. within the limit. -/
theorem rv_venc_in {w : World} {Q S K : Nat} {lim n : Int} {rest : List Int} (h : Stm w Q S lim (venc K n ++ rest)) (hK : K ≤ 3) (h0 : 0 ≤ n) (h1 : n < vtop K) (hl : ((2 ^ K : Nat) : Int) ≤ lim) (h63 : lim ≤ 9223372036854775807) :
    Calls Tryd.prog 48 #[.pointer (some ⟨S, 0, none⟩)] w fun e w' => e = .returned (.tuple #[.int .i64 n, .nilIface]) ∧ Stm w' Q S (lim - (2 ^ K : Nat)) rest ∧ Fr Q S w w' := by
  obtain ⟨x, r, e, hv, hlen, hat, _⟩ := venc_read hK h0 h1 rest
  rw [e, List.cons_append] at h
  have h2 := rv_in h (by simp; omega) (by rw [hv]; exact hl) h63
  rw [hv, hat, show (r ++ rest).drop (2 ^ K - 1) = rest by rw [← hlen, Nat.add_sub_cancel, List.drop_left]] at h2
  exact h2

/-- An error value that hangs on no memory but io.EOF's, of a code but 0. -/
def Bad1 (a0 : Addr) (t : TypeId) (v : Value) : Prop := ∃ k : Int, k ≠ 0 ∧ ∀ W, EC W a0 (.iface t v) k
theorem Bad1.eof (a0 : Addr) : Bad1 a0 110 (.pointer (some a0)) := ⟨2, by decide, fun _ => .inr (.inl ⟨rfl, rfl⟩)⟩
theorem Bad1.h3 (a0 : Addr) {k : Int} (h : k ≠ 0) : Bad1 a0 92 (.int .i64 k) := ⟨k, h, fun _ => .inl rfl⟩

/-- readVarint of what is left of venc where it breaks off. -/
theorem rv_cut {w : World} {Q S K m : Nat} {lim n : Int} {a0 : Addr} (h : Stm w Q S lim ((venc K n).take m)) (hK : K ≤ 3) (h0 : 0 ≤ n) (h1 : n < vtop K) (hm : m < 2 ^ K) (hE : Eof w a0) (hQ : 0 < Q) :
    Calls Tryd.prog 48 #[.pointer (some ⟨S, 0, none⟩)] w fun e w' => (∃ t v, e = .returned (.tuple #[.int .i64 0, .iface t v]) ∧ Bad1 a0 t v) ∧ Inp w' Q [] ∧ Fr Q S w w' := by
  cases m with
  | zero =>
    rw [List.take_zero] at h
    exact (rv_nil h hE).mono fun _ _ ⟨he, hi, hf⟩ => ⟨⟨_, _, he, Bad1.eof a0⟩, hi, hf⟩
  | succ m =>
    obtain ⟨x, r, e, hv, hlen, _, _⟩ := venc_read hK h0 h1 []
    rw [e, List.take_succ_cons] at h
    exact (rv_short h (by rw [hv]; simp; omega) hE hQ).mono fun _ _ ⟨he, hi, hf⟩ => ⟨⟨_, _, he, Bad1.h3 a0 (by decide)⟩, hi, hf⟩

/-- readVarint at a type of its own: what readVarint gives is handed on. -/
theorem rvt {w : World} {S : Nat} {a : Int} {ev : Value} {R : World → Prop} (h : Calls Tryd.prog 48 #[.pointer (some ⟨S, 0, none⟩)] w fun e w' => e = .returned (.tuple #[.int .i64 a, ev]) ∧ R w') :
    Calls Tryd.prog 67 #[.pointer (some ⟨S, 0, none⟩)] w fun e w' => e = .returned (.tuple #[.int .i64 a, ev]) ∧ R w' := by
  have H := Lib.hid h
  clear h
  go_enter Tryd.func67, Tryd.ntmps67
  go_wp2_with fail
  refine H.out.mono ?_
  rintro e w1 ⟨rfl, hR⟩
  have HR := Lib.hid hR
  clear hR H
  go_wp2
  go_ret2
  exact ⟨rfl, HR.out⟩
theorem rvt_bad {w : World} {S : Nat} {a0 : Addr} {R : World → Prop} (h : Calls Tryd.prog 48 #[.pointer (some ⟨S, 0, none⟩)] w fun e w' => (∃ t v, e = .returned (.tuple #[.int .i64 0, .iface t v]) ∧ Bad1 a0 t v) ∧ R w') :
    Calls Tryd.prog 67 #[.pointer (some ⟨S, 0, none⟩)] w fun e w' => (∃ t v, e = .returned (.tuple #[.int .i64 0, .iface t v]) ∧ Bad1 a0 t v) ∧ R w' := by
  have H := Lib.hid h
  clear h
  go_enter Tryd.func67, Tryd.ntmps67
  go_wp2_with fail
  refine H.out.mono ?_
  rintro e w1 ⟨⟨t, v, rfl, hb⟩, hR⟩
  have HR := Lib.hid hR
  have HB := Lib.hid hb
  clear hR H hb
  go_wp2
  go_ret2
  exact ⟨⟨t, v, rfl, HB.out⟩, HR.out⟩

/-- readFrameHeader: type and length are there. -/
theorem rfh_ok {w : World} {Q S K L : Nat} {a b : Int} {rest : List Int} (h : Stm w Q S (-1) (venc K a ++ (venc L b ++ rest))) (hK : K ≤ 3) (hL : L ≤ 3) (ha0 : 0 ≤ a) (ha1 : a < vtop K) (hb0 : 0 ≤ b) (hb1 : b < vtop L) :
    Calls Tryd.prog 52 #[.pointer (some ⟨S, 0, none⟩)] w fun e w' => e = .returned (.tuple #[.int .i64 a, .nilIface]) ∧ Stm w' Q S b rest ∧ Fr Q S w w' := by
  have g1 : w.cell? ⟨S, 1, none⟩ = some (.int .i64 (-1)) := h.2.2.cell 1
  have H1 := Lib.hid (rvt (R := fun w' => Stm w' Q S (-1) (venc L b ++ rest) ∧ Fr Q S w w') (rv_venc h hK ha0 ha1 (by omega)))
  clear h
  go_enter Tryd.func52, Tryd.ntmps52
  go_wp2_with fail
  refine H1.out.mono ?_
  rintro e w1 ⟨rfl, hS1, hf1⟩
  have H2 := Lib.hid (rv_venc hS1 hL hb0 hb1 (by omega))
  clear hS1 H1
  go_wp2_with fail
  refine H2.out.mono ?_
  rintro e w2 ⟨rfl, hS2, hf2⟩
  have g2 : w2.cell? ⟨S, 1, none⟩ = some (.int .i64 (-1)) := hS2.2.2.cell 1
  have f2 := hS2.2.2.frozen 1
  have HS2 := Lib.hid hS2
  clear hS2 H2
  go_wp2
  go_ret2
  exact ⟨rfl, HS2.out.lim_ b, (hf1.trans hf2).setCell (.inr (.inl rfl)) _⟩
/-- readFrameHeader: the type breaks off. -/
theorem rfh_cut1 {w : World} {Q S : Nat} {xs : List Int} {a0 : Addr} (h : Stm w Q S (-1) xs)
    (hc : Calls Tryd.prog 48 #[.pointer (some ⟨S, 0, none⟩)] w fun e w' => (∃ t v, e = .returned (.tuple #[.int .i64 0, .iface t v]) ∧ Bad1 a0 t v) ∧ Inp w' Q [] ∧ Fr Q S w w') :
    Calls Tryd.prog 52 #[.pointer (some ⟨S, 0, none⟩)] w fun e w' => (∃ t v, e = .returned (.tuple #[.int .i64 0, .iface t v]) ∧ Bad1 a0 t v) ∧ Inp w' Q [] ∧ Fr Q S w w' := by
  have g1 : w.cell? ⟨S, 1, none⟩ = some (.int .i64 (-1)) := h.2.2.cell 1
  have H1 := Lib.hid (rvt_bad hc)
  clear h hc
  go_enter Tryd.func52, Tryd.ntmps52
  go_wp2_with fail
  refine H1.out.mono ?_
  rintro e w1 ⟨⟨t, v, rfl, hb⟩, hI, hf1⟩
  have HI := Lib.hid hI
  have HB := Lib.hid hb
  clear hI H1 hb
  go_wp2
  go_ret2
  exact ⟨⟨t, v, rfl, HB.out⟩, HI.out, hf1⟩
/-- readFrameHeader: the length breaks off. -/
theorem rfh_cut2 {w : World} {Q S K L m : Nat} {a b : Int} {a0 : Addr} (h : Stm w Q S (-1) (venc K a ++ (venc L b).take m)) (hK : K ≤ 3) (hL : L ≤ 3) (ha0 : 0 ≤ a) (ha1 : a < vtop K) (hb0 : 0 ≤ b) (hb1 : b < vtop L) (hm : m < 2 ^ L) (hE : Eof w a0) (hQ : 0 < Q) :
    Calls Tryd.prog 52 #[.pointer (some ⟨S, 0, none⟩)] w fun e w' => (∃ t v, e = .returned (.tuple #[.int .i64 0, .iface t v]) ∧ Bad1 a0 t v) ∧ Inp w' Q [] ∧ Fr Q S w w' := by
  have g1 : w.cell? ⟨S, 1, none⟩ = some (.int .i64 (-1)) := h.2.2.cell 1
  have hQS := h.2.1
  have H1 := Lib.hid (rvt (R := fun w' => Stm w' Q S (-1) ((venc L b).take m) ∧ Fr Q S w w') (rv_venc h hK ha0 ha1 (by omega)))
  have HE := Lib.hid hE
  clear h hE
  go_enter Tryd.func52, Tryd.ntmps52
  go_wp2_with fail
  refine H1.out.mono ?_
  rintro e w1 ⟨rfl, hS1, hf1⟩
  have H2 := Lib.hid (rv_cut hS1 hL hb0 hb1 hm (HE.out.fr hf1 hQ (by omega)) hQ)
  clear hS1 H1
  go_wp2_with fail
  refine H2.out.mono ?_
  rintro e w2 ⟨⟨t, v, rfl, hb⟩, hI, hf2⟩
  have HI := Lib.hid hI
  have HB := Lib.hid hb
  clear hI H2 hb
  go_wp2
  go_ret2
  exact ⟨⟨t, v, rfl, HB.out⟩, HI.out, hf1.trans hf2⟩
end Go.Proofs.YtfimelphdmmiaaaDoor
