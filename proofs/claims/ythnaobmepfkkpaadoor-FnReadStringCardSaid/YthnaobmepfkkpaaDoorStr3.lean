/- Strings with a prefix: what is written is read by the reference's ParseString. -/
import Derived.Test.YthnaobmepfkkpaaDoorStr2
namespace Go.Proofs.YthnaobmepfkkpaaDoor
open Go Go.RowKit

theorem low_first {f n : Int} {k : Nat} (hk : f % 2 ^ k = 0) (hk1 : 1 ≤ k) (h8 : k ≤ 8) (hn0 : 0 ≤ n) (hn : n ≤ most k) : low (f + n) k = n := by
  unfold low most at *
  rcases (show k = 1 ∨ k = 2 ∨ k = 3 ∨ k = 4 ∨ k = 5 ∨ k = 6 ∨ k = 7 ∨ k = 8 by omega) with rfl | rfl | rfl | rfl | rfl | rfl | rfl | rfl <;> (simp only [Int.reducePow] at *; omega)
theorem head_fits {f n : Int} {k : Nat} (h1 : f ≤ 255) (hk : f % 2 ^ k = 0) (hk1 : 1 ≤ k) (h8 : k ≤ 8) (hn : n ≤ most k) : f + n ≤ 255 := by
  unfold most at *
  rcases (show k = 1 ∨ k = 2 ∨ k = 3 ∨ k = 4 ∨ k = 5 ∨ k = 6 ∨ k = 7 ∨ k = 8 by omega) with rfl | rfl | rfl | rfl | rfl | rfl | rfl | rfl <;> (simp only [Int.reducePow] at *; omega)
theorem pint_byts {f n : Int} {k : Nat} (h0 : 0 ≤ f) (h1 : f ≤ 255) (hk : f % 2 ^ k = 0) (hk1 : 1 ≤ k) (h8 : k ≤ 8) (hn0 : 0 ≤ n) (hn : n ≤ 4611686018427387903) : Byt (pint f k n) := by
  obtain ⟨hb2, hb3⟩ := most_cases hk1 h8
  unfold pint
  split
  · exact Byt.cons (by omega) (head_fits h1 hk hk1 h8 (by omega)) Byt.nil
  · exact Byt.cons (by omega) (head_fits h1 hk hk1 h8 (Int.le_refl _)) (pdig_byt 8 _ (by omega) (by omega))
theorem high_fit8 {a : Int} {p : Nat} (hp1 : 1 ≤ p) (hp8 : p ≤ 8) : 0 ≤ a / 2 ^ p * 2 ^ p % 256 ∧ a / 2 ^ p * 2 ^ p % 256 ≤ 255 ∧ a / 2 ^ p * 2 ^ p % 256 % 2 ^ p = 0 := by
  rcases (show p = 1 ∨ p = 2 ∨ p = 3 ∨ p = 4 ∨ p = 5 ∨ p = 6 ∨ p = 7 ∨ p = 8 by omega) with rfl | rfl | rfl | rfl | rfl | rfl | rfl | rfl <;> (simp only [Int.reducePow]; omega)
theorem first_bit {f n : Int} {k : Nat} (hk : f % 2 ^ (k + 1) = 0) (hk1 : 1 ≤ k) (h7 : k ≤ 7) (hn0 : 0 ≤ n) (hn : n ≤ most k) : (f + n) / 2 ^ k % 2 = 0 ∧ (f + 2 ^ k + n) / 2 ^ k % 2 = 1 := by
  unfold most at *
  rcases (show k = 1 ∨ k = 2 ∨ k = 3 ∨ k = 4 ∨ k = 5 ∨ k = 6 ∨ k = 7 by omega) with rfl | rfl | rfl | rfl | rfl | rfl | rfl <;> (simp only [Int.reducePow, Nat.reduceAdd] at *; omega)
/-- The head of what is written. -/
theorem pint_head (f : Int) (k : Nat) {n : Int} (hk1 : 1 ≤ k) (h8 : k ≤ 8) (hn0 : 0 ≤ n) : ∃ m r, pint f k n = (f + m) :: r ∧ 0 ≤ m ∧ m ≤ most k := by
  obtain ⟨hb2, hb3⟩ := most_cases hk1 h8
  unfold pint
  split
  · exact ⟨n, [], rfl, hn0, by omega⟩
  · exact ⟨most k, _, rfl, by omega, Int.le_refl _⟩
/-- What is written is read by ParseInteger. -/
theorem pi_back {w : World} {A : Option Addr} {l c k N : Nat} {f : Int} {rest : List Int} (h0 : 0 ≤ f) (h1 : f ≤ 255) (hk : f % 2 ^ k = 0) (hk1 : 1 ≤ k) (h8 : k ≤ 8) (hn : N ≤ 4611686018427387903)
    (hr : Rd .u8 w A (pint f k N ++ rest)) (hl : (pint f k N ++ rest).length = l) (hy : Byt rest) (h63 : l ≤ 9223372036854775807) :
    Calls Tryd.prog 11 #[.slice A l c, .int .i64 k] w fun e w' => e = .returned (.tuple #[.int .u64 (N : Int), .int .i64 ((pint f k N).length : Nat), .bool true, .bool true]) ∧ w = w' := by
  have hy2 := (pint_byts h0 h1 hk hk1 h8 (n := (N : Int)) (by omega) (by omega)).append hy
  obtain ⟨hb2, hb3⟩ := most_cases hk1 h8
  by_cases hlt : (N : Int) < most k
  · have e0 : pint f k N = [f + N] := by unfold pint; rw [if_pos hlt]
    rw [e0] at hr hl hy2
    have hlow := low_first hk hk1 h8 (n := (N : Int)) (by omega) (by omega)
    refine (pi_small hr hl hy2 hk1 h8 (by rw [hlow]; exact hlt)).mono ?_
    rintro e w' ⟨rfl, rfl⟩
    exact ⟨by rw [hlow, e0]; rfl, rfl⟩
  · have e0 : pint f k N = (f + most k) :: pdig 8 (N - most k) := by unfold pint; rw [if_neg hlt]
    rw [e0] at hr hl hy2
    have hlow := low_first hk hk1 h8 (n := most k) (by omega) (Int.le_refl _)
    obtain ⟨t, e1, e2, e3, e4, e5⟩ := pdig_read 8 (N - most k) rest (by omega) (by omega)
    refine (pi_ok (t := t) (r := pdig 8 (N - most k) ++ rest) hr hl hy2 h63 hk1 h8 hlow e2 (by simp; omega) e3 e4).mono ?_
    rintro e w' ⟨rfl, rfl⟩
    rw [e5, show most k + ((N : Int) - most k) = N by omega, e0]
    refine ⟨?_, rfl⟩
    have hd : decide ((N : Int) < 4611686018427387904) = true := by simp; omega
    have hL : (t : Int) + 2 = (((f + most k) :: pdig 8 (N - most k)).length : Nat) := by simp [← e1]; omega
    rw [hd, hL]
theorem Unh.fun_ {ys : List Nat} {s s' : ByteArray} {ok ok' : Bool} (h : Unh ys s ok) (h' : Unh ys s' ok') : s = s' ∧ ok = ok' := by
  rcases h with ⟨h1, h2, h3⟩ | ⟨a, b, c, h1, h2, h3⟩ <;> rcases h' with ⟨k1, k2, k3⟩ | ⟨a', b', c', k1, k2, k3⟩
  · exact ⟨h2.trans k2.symm, h3.trans k3.symm⟩
  · rw [h1] at k1; cases k1
  · rw [h1] at k1; cases k1
  · rw [h1] at k1
    injection k1 with k1
    injection k1 with e1 k1
    injection k1 with e2 e3
    subst e1 e2 e3
    exact ⟨h2.trans k2.symm, h3.trans k3.symm⟩

/-- A string that is written in Huffman code is read. -/
theorem back_yes {w : World} {A : Option Addr} {l c k p : Nat} {f : Int} {s : ByteArray} {yn : List Nat} (h0 : 0 ≤ f) (h1 : f ≤ 255) (hk : f % 2 ^ (k + 1) = 0) (hk1 : 1 ≤ k) (h7 : k ≤ 7) (hs : s.size ≤ 2147483647) (hH : HufB s yn p)
    (hr : Rd .u8 w A (pint (f + 2 ^ k) k yn.length ++ nz yn)) (hl : (pint (f + 2 ^ k) k yn.length ++ nz yn).length = l) (hlc : l ≤ c) (hc : c ≤ 9223372036854775807) :
    Calls Tryd.prog 7 #[.slice A l c, .int .i64 k] w fun e w' => e = .returned (.tuple #[.string s, .int .i64 (l : Int), .bool true, .bool true]) ∧ Below w.heap.size w w' := by
  obtain ⟨_, hF1, hF2, _⟩ := or_bitk h0 h1 hk h7
  have hF0 : 0 ≤ f + 2 ^ k := Int.add_nonneg h0 (Int.le_of_lt (Int.pow_pos (by decide)))
  have hb30 := hb_len_le s s.size
  have hyl : yn.length ≤ 8053063681 := by rw [hH.len2]; omega
  obtain ⟨m, r, hm, hm0, hm1⟩ := pint_head (f + 2 ^ k) k (n := (yn.length : Int)) hk1 (by omega) (by omega)
  have hyb : Byt (nz yn) := fun x hx => by
    unfold nz at hx
    obtain ⟨n, hn, rfl⟩ := List.mem_map.1 hx
    have := hH.bytes n hn
    omega
  have hfit := head_fits hF1 hF2 hk1 (by omega) hm1
  have hpl := (pint_length (f + 2 ^ k) k (yn.length : Int)).2
  have hll : (pint (f + 2 ^ k) k (yn.length : Int)).length + yn.length = l := by rw [← hl, List.length_append, nz_length]
  have hpi := pi_back (c := c) (N := yn.length) hF0 hF1 hF2 hk1 (by omega) (by omega) hr hl hyb (by omega)
  have hxs : (f + 2 ^ k + m) :: (r ++ nz yn) = pint (f + 2 ^ k) k yn.length ++ (nz yn ++ []) := by rw [hm]; simp
  have hxs' : pint (f + 2 ^ k) k yn.length ++ nz yn = (f + 2 ^ k + m) :: (r ++ nz yn) := by rw [hm]; rfl
  rw [hxs'] at hr hl
  refine (ps_huff hpi hr hl (by omega) hfit hlc hc hxs rfl rfl hH.bytes (by omega) (first_bit hk hk1 h7 hm0 hm1).2 h7).mono ?_
  rintro e w' ⟨⟨str, ok, rfl, hu⟩, hb⟩
  obtain ⟨rfl, rfl⟩ := hu.fun_ hH.read
  exact ⟨by rw [hll], hb⟩
/-- .. as it is. -/
theorem back_no {w : World} {A : Option Addr} {l c k : Nat} {f : Int} {s : ByteArray} (h0 : 0 ≤ f) (h1 : f ≤ 255) (hk : f % 2 ^ (k + 1) = 0) (hk1 : 1 ≤ k) (h7 : k ≤ 7) (hs : s.size ≤ 2147483647)
    (hr : Rd .u8 w A (pint f k s.size ++ snum s)) (hl : (pint f k s.size ++ snum s).length = l) (hlc : l ≤ c) (hc : c ≤ 9223372036854775807) :
    Calls Tryd.prog 7 #[.slice A l c, .int .i64 k] w fun e w' => e = .returned (.tuple #[.string s, .int .i64 (l : Int), .bool true, .bool true]) ∧ Below w.heap.size w w' := by
  obtain ⟨_, _, _, hF2⟩ := or_bitk h0 h1 hk h7
  obtain ⟨m, r, hm, hm0, hm1⟩ := pint_head f k (n := (s.size : Int)) hk1 (by omega) (by omega)
  have hfit := head_fits h1 hF2 hk1 (by omega) hm1
  have hpl := (pint_length f k (s.size : Int)).2
  have hll : (pint f k (s.size : Int)).length + s.size = l := by rw [← hl, List.length_append, snum_length]
  have hpi := pi_back (c := c) (N := s.size) h0 h1 hF2 hk1 (by omega) (by omega) hr hl (snum_byt s) (by omega)
  have hxs : (f + m) :: (r ++ snum s) = pint f k s.size ++ (snum s ++ []) := by rw [hm]; simp
  have hxs' : pint f k s.size ++ snum s = (f + m) :: (r ++ snum s) := by rw [hm]; rfl
  rw [hxs'] at hr hl
  refine (ps_plain hpi hr hl (by omega) hfit hlc hc hxs rfl (snum_length s) (first_bit hk hk1 h7 hm0 hm1).1 h7).mono ?_
  rintro e w' ⟨rfl, rfl⟩
  exact ⟨by rw [hll, str_snum], Below.refl _ _⟩
end Go.Proofs.YthnaobmepfkkpaaDoor
