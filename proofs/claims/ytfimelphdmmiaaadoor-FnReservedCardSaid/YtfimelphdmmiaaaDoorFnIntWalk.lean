/- The law FnInt: the walk. -/
import Derived.Test.YtfimelphdmmiaaaDoorInt3
import Derived.Test.YtfimelphdmmiaaaDoorEnc
import Derived.Test.YtfimelphdmmiaaaDoorLaid
namespace Go.Proofs.YtfimelphdmmiaaaDoor
open Go Go.RowKit

/-- A number's lowest 62 bits. -/
def low62 (n : Int) : Int := n % 4611686018427387904
theorem low62_bound (n : Int) : 0 ≤ low62 n ∧ low62 n ≤ 4611686018427387903 := by unfold low62; omega
theorem and62 {n : Int} (h0 : 0 ≤ n) (h1 : n ≤ 18446744073709551615) : bits .and .u64 n 4611686018427387903 = low62 n :=
  bits_mask .u64 64 (by decide) (fun n a c => IntWalk.u64_in n (by omega)) 62 (by decide) n h0 (by omega)
/-- A slice without elements, just made. -/
theorem Own.empty (k : IntKind) (e : TypeId) (w : World) (base : Nat) (hb : base ≤ w.heap.size) : Own k e (w.alloc (.cells #[] e)) base (some ⟨w.heap.size, 0, none⟩) 0 0 [] :=
  ⟨rfl, .inr ⟨w.heap.size, 0, #[], rfl, hb, heap_alloc_new w _, Nat.le_refl _, by unfold maxLen; omega, rfl, rfl⟩⟩

theorem low_of {f n : Int} {k : Nat} (hk : f % 2 ^ k = 0) (hk1 : 1 ≤ k) (h8 : k ≤ 8) (hn0 : 0 ≤ n) (hn : n ≤ most k) : low (f + n) k = n := by
  unfold low most at *
  rcases (show k = 1 ∨ k = 2 ∨ k = 3 ∨ k = 4 ∨ k = 5 ∨ k = 6 ∨ k = 7 ∨ k = 8 by omega) with rfl | rfl | rfl | rfl | rfl | rfl | rfl | rfl <;> (simp only [Int.reducePow] at *; omega)
theorem first_fits {f n : Int} {k : Nat} (h1 : f ≤ 255) (hk : f % 2 ^ k = 0) (hk1 : 1 ≤ k) (h8 : k ≤ 8) (hn : n ≤ most k) : f + n ≤ 255 := by
  unfold most at *
  rcases (show k = 1 ∨ k = 2 ∨ k = 3 ∨ k = 4 ∨ k = 5 ∨ k = 6 ∨ k = 7 ∨ k = 8 by omega) with rfl | rfl | rfl | rfl | rfl | rfl | rfl | rfl <;> (simp only [Int.reducePow] at *; omega)
theorem pint_byt {f n : Int} {k : Nat} (h0 : 0 ≤ f) (h1 : f ≤ 255) (hk : f % 2 ^ k = 0) (hk1 : 1 ≤ k) (h8 : k ≤ 8) (hn0 : 0 ≤ n) (hn : n ≤ 4611686018427387903) : Byt (pint f k n) := by
  obtain ⟨hb2, hb3⟩ := most_cases hk1 h8
  unfold pint
  split
  · exact Byt.cons (by omega) (first_fits h1 hk hk1 h8 (by omega)) Byt.nil
  · exact Byt.cons (by omega) (first_fits h1 hk hk1 h8 (Int.le_refl _)) (pdig_byt 8 _ (by omega) (by omega))
/-- What pint writes is read back. -/
theorem ri_back {w : World} {A : Option Addr} {l c k : Nat} {f n : Int} {rest : List Int} {a0 : Addr} (h0 : 0 ≤ f) (h1 : f ≤ 255) (hk : f % 2 ^ k = 0) (hk1 : 1 ≤ k) (h8 : k ≤ 8) (hn0 : 0 ≤ n) (hn : n ≤ 4611686018427387903)
    (hr : Rd .u8 w A (pint f k n ++ rest)) (hl : (pint f k n ++ rest).length = l) (hy : Byt rest) (h47 : l ≤ 140737488355328) (hE : Eof w a0) :
    Calls Tryd.prog 19 #[.slice A l c, .int .u8 k] w fun e w' => (∃ x : Int, e = .returned (.tuple #[.int .u8 x, .int .i64 n, .int .i64 rest.length, .int .i64 0])) ∧ Below w.heap.size w w' := by
  have hy2 := (pint_byt h0 h1 hk hk1 h8 hn0 hn).append hy
  obtain ⟨hb2, hb3⟩ := most_cases hk1 h8
  by_cases hlt : n < most k
  · have e : pint f k n ++ rest = (f + n) :: rest := by unfold pint; rw [if_pos hlt]; rfl
    rw [e] at hr hl hy2
    have hlow := low_of hk hk1 h8 hn0 (by omega)
    refine (ri_small hr hl hy2 h47 hE hk1 h8 (by omega)).mono ?_
    rintro e w' ⟨rfl, hb⟩
    exact ⟨⟨_, by rw [hlow]⟩, hb⟩
  · have e : pint f k n ++ rest = (f + most k) :: (pdig 8 (n - most k) ++ rest) := by unfold pint; rw [if_neg hlt]; rfl
    rw [e] at hr hl hy2
    have hlow := low_of hk hk1 h8 (by omega) (Int.le_refl (most k))
    obtain ⟨t, e1, e2, e3, e4, e5⟩ := pdig_read 8 (n - most k) rest (by omega) (by omega)
    refine (ri_ok (t := t) hr hl hy2 h47 hE hk1 h8 hlow e2 (by simp; omega) e3 e4 (by rw [e5]; omega)).mono ?_
    rintro e w' ⟨rfl, hb⟩
    refine ⟨⟨f + most k, ?_⟩, hb⟩
    rw [e5, show most k + (n - most k) = n by omega, e1, List.drop_left]
theorem high_fits {a : Int} {p : Nat} (hp1 : 1 ≤ p) (hp8 : p ≤ 8) : 0 ≤ a / 2 ^ p * 2 ^ p % 256 ∧ a / 2 ^ p * 2 ^ p % 256 ≤ 255 ∧ a / 2 ^ p * 2 ^ p % 256 % 2 ^ p = 0 := by
  rcases (show p = 1 ∨ p = 2 ∨ p = 3 ∨ p = 4 ∨ p = 5 ∨ p = 6 ∨ p = 7 ∨ p = 8 by omega) with rfl | rfl | rfl | rfl | rfl | rfl | rfl | rfl <;> (simp only [Int.reducePow]; omega)
namespace fnInt

theorem walk {w : World} {a0 a1 a2 : Int} {A : Option Addr} {n c : Nat} {xs : List Int} (h0 : (Lit.int .u8 a0).wf = true) (h1 : (Lit.int .i64 a1).wf = true) (h2 : (Lit.int .u64 a2).wf = true) (h : Came .u8 w A n c xs) (hL : laidMetH Tryd.prog [("io.EOF", Rows.laid_io_EOF)] w) :
    Calls Tryd.prog 6 #[.int .u8 a0, .int .i64 a1, .int .u64 a2, .slice A n c] w fun e w' => e = .returned (.bool true) ∧ Below w.heap.size w w' := by
  obtain ⟨ae, hE⟩ := eof_of hL
  clear hL
  by_cases hbig : 2147483647 < n
  · clear hE
    go_enter Tryd.func6, Tryd.ntmps6
    go_wp2
    go_ret
    exact ⟨rfl, Below.refl _ _⟩
  have hbig : n ≤ 2147483647 := by omega
  have HC := Lib.hid h
  have HE := Lib.hid hE
  obtain ⟨hf0, hf1⟩ := bounds_u8 h0
  obtain ⟨hn0, hn1⟩ := bounds_u64 h2
  have hmask := and62 hn0 hn1
  obtain ⟨hm0, hm1⟩ := low62_bound a2
  have Hp := Lib.hid (pfx a1 8 w h1 (by omega) (by omega))
  clear h hE h0 h1 h2 hn0 hn1
  go_enter Tryd.func6, Tryd.ntmps6
  go_wp2_with fail
  refine Hp.out.mono ?_
  rintro e w' ⟨⟨p, hp1, hp8, rfl⟩, rfl⟩
  clear Hp
  go_wp2_with fail
  obtain ⟨hF0, hF1, hF2⟩ := high_fits (a := a0) hp1 hp8
  generalize a0 / 2 ^ p * 2 ^ p % 256 = F at *
  have HF2 := Lib.hid hF2
  generalize low62 a2 = N at *
  clear hmask hF2
  refine (integer_any hF0 hF1 HF2.out hp1 hp8 hm0 hm1).mono ?_
  rintro e w1 ⟨A1, l1, c1, rfl, hown1, hb1⟩
  have HO1 := Lib.hid hown1
  have HB1 := Lib.hid hb1
  clear hown1 hb1
  go_wp2_with fail
  refine (hai hF0 hF1 HF2.out hp1 hp8 hm0 hm1).mono ?_
  rintro e w2 ⟨A2, l2, c2, rfl, hown2, hb2⟩
  have HB2 := Lib.hid (HB1.out.trans (hb2.mono HB1.out.size))
  have HO1 := Lib.hid (HO1.out.below hb2 (Nat.le_refl _))
  have hl2 := hown2.len
  obtain ⟨hpl0, hpl1⟩ := pint_length F p N
  have hl20 : l2 ≤ 10 := by omega
  have HO2 := Lib.hid hown2
  have HR := Lib.hid (HC.out.rd.below HB2.out (Nat.le_refl _))
  clear hown2 hb2 hl2
  have h10 := HB2.out.size
  go_wp2_with (first
    | (at_builtin; refine wpList_app _ rfl (.tmp 38) _ elem8 rfl w2.heap.size (some ⟨w2.heap.size, 0, none⟩) 0 0 [] rfl (Own.empty _ _ _ _ (Nat.le_refl _)) A2 l2 c2 (pint F p N) rfl HO2.out.len (HO2.out.rd.below ((Below.refl _ _).alloc (Nat.le_refl _) _) (Nat.le_refl _)) (by omega) (by omega) (by simp) ?_; intro A3 l3 c3 w3 hl3 hown3 hg3 hat3; have hb3 := Lib.hid (below_app ((Below.refl w2.heap.size w2).alloc (Nat.le_refl _) _) (Own.empty .u8 5 w2 w2.heap.size (Nat.le_refl _)) hg3 (by simp) (Nat.le_refl _)); have hz3 := hb3.out.size; have hll3 : l3 ≤ 10 := (by have := hl3.out; omega); have ho3 := Lib.hid hown3; clear hown3 hg3 hat3)
    | (at_builtin; refine wpList_app _ rfl (.tmp 40) _ elem8 rfl w2.heap.size A3 l3 c3 ([] ++ pint F p N) rfl ho3.out A n c xs rfl HC.out.len (HR.out.below hb3.out (Nat.le_refl _)) (by omega) (by omega) hz3 ?_; intro A4 l4 c4 w4 hl4 hown4 hg4 hat4; have hb4 := Lib.hid (below_app hb3.out ho3.out hg4 hz3 (Nat.le_refl _)); have hz4 := hb4.out.size; have ho4 := Lib.hid hown4; have hll4 : l4 ≤ 2147483657 := (by have := hl4.out; omega); clear hown4 hg4 hat4))
  have hb := HB2.out.trans (hb4.out.mono h10)
  have h := ri_back (c := c4) (rest := xs) hF0 hF1 HF2.out hp1 hp8 hm0 hm1 (by simpa using ho4.out.rd) (by simpa using ho4.out.len) HC.out.byt (by omega) (HE.out.below hb (cell_lt HE.out))
  rw [HC.out.len] at h
  refine h.mono ?_
  rintro e w5 ⟨⟨x, rfl⟩, hb5⟩
  have HB5 := Lib.hid (hb.trans (hb5.mono (by have := hb.size; omega)))
  have hz5 := hb5.size
  have hs := Lib.hid (same_eq (c := c2) (d := c1) ((HO2.out.rd.below hb4.out (Nat.le_refl _)).below hb5 (Nat.le_refl _)) HO2.out.len ((HO1.out.rd.below hb4.out (Nat.le_refl _)).below hb5 (Nat.le_refl _)) HO1.out.len)
  clear hb h hb5
  go_wp2_with fail
  refine hs.out.mono ?_
  rintro e w6 ⟨rfl, rfl⟩
  go_wp2
  go_ret
  exact ⟨rfl, HB5.out⟩
end fnInt
end Go.Proofs.YtfimelphdmmiaaaDoor
