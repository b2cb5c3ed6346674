/- Strings with a prefix: the reference's String and ParseString. -/
import Derived.Test.YthnaobmepfkkpaaDoorStr1
import Derived.Test.YthnaobmepfkkpaaDoorInt2
namespace Go.Proofs.YthnaobmepfkkpaaDoor
open Go Go.RowKit

set_option maxHeartbeats 400000 in
theorem string_yes {w : World} {f : Int} {k : Nat} {s : ByteArray} (h0 : 0 ≤ f) (h1 : f ≤ 255) (hk : f % 2 ^ (k + 1) = 0) (hk1 : 1 ≤ k) (h7 : k ≤ 7) (hs : s.size ≤ 2147483647) :
    Calls Tryd.prog 10 #[.int .u8 f, .int .i64 k, .string s, .bool true] w fun e w' => ∃ yn p, HufB s yn p ∧ Wrote w w.heap.size w.heap.size (pint (f + 2 ^ k) k yn.length ++ nz yn) e w' := by
  obtain ⟨hor, hF1, hF2, _⟩ := or_bitk h0 h1 hk h7
  have hF0 : 0 ≤ f + 2 ^ k := Int.add_nonneg h0 (Int.le_of_lt (Int.pow_pos (by decide)))
  generalize hF : f + 2 ^ k = F at *
  have HF2 := Lib.hid hF2
  clear hk hF hF2
  have hl30 := hb_len_le s s.size
  go_enter Tryd.func10, Tryd.ntmps10
  go_wp2_with fail
  refine (huffman_any hs).mono ?_
  rintro e w1 ⟨⟨A1, l1, c1, yn, p, rfl, ho1, hp, hbits, hy⟩, hb1⟩
  have HO1 := Lib.hid ho1
  have HB1 := Lib.hid hb1
  have HH := Lib.hid (⟨hp, hbits, hy⟩ : HufB s yn p)
  have hl1 : l1 ≤ 8053063680 := by have := ho1.len; rw [nz_length, HH.out.len2] at this; omega
  have hz1 := hb1.size
  clear ho1 hb1 hbits hy hl30
  go_wp2_with fail
  refine (integer_any (n := (l1 : Int)) hF0 hF1 HF2.out hk1 (by omega) (by omega) (by omega)).mono ?_
  rintro e w2 ⟨A2, l2, c2, rfl, ho2, hb2⟩
  have HO2 := Lib.hid (ho2.low hz1)
  have HB2 := Lib.hid (HB1.out.trans (hb2.mono hz1))
  have HR1 := Lib.hid (HO1.out.below hb2 (Nat.le_refl _)).rd
  have hl2 : l2 ≤ 10 := by have := ho2.len; have := (pint_length F k (l1 : Int)).2; omega
  have hz2 := hb2.size
  clear ho2 hb2
  go_wp2_with (at_builtin; refine wpList_app _ rfl _ _ elem8 rfl w.heap.size A2 l2 c2 (pint F k l1) rfl HO2.out A1 l1 c1 (nz yn) rfl HO1.out.len HR1.out (by omega) (by omega) (by omega) ?_; intro A3 l3 c3 w3 hl3 hown3 hg3 hat3; have HB3 := Lib.hid (below_app HB2.out HO2.out hg3 (by omega) (Nat.le_refl _)); have HO3 := Lib.hid hown3; clear hown3 hg3 hat3)
  go_ret
  have hlen := HO1.out.len
  rw [nz_length] at hlen
  exact ⟨yn, p, HH.out, A3, l3, c3, rfl, by rw [hlen]; exact HO3.out, HB3.out⟩

set_option maxHeartbeats 400000 in
theorem string_no {w : World} {f : Int} {k : Nat} {s : ByteArray} (h0 : 0 ≤ f) (h1 : f ≤ 255) (hk : f % 2 ^ (k + 1) = 0) (hk1 : 1 ≤ k) (h7 : k ≤ 7) (hs : s.size ≤ 2147483647) :
    Calls Tryd.prog 10 #[.int .u8 f, .int .i64 k, .string s, .bool false] w (Wrote w w.heap.size w.heap.size (pint f k s.size ++ snum s)) := by
  obtain ⟨_, _, _, hF2⟩ := or_bitk h0 h1 hk h7
  have HF2 := Lib.hid hF2
  clear hk hF2
  go_enter Tryd.func10, Tryd.ntmps10
  go_wp2_with fail
  refine (integer_any (n := (s.size : Int)) h0 h1 HF2.out hk1 (by omega) (by omega) (by omega)).mono ?_
  rintro e w2 ⟨A2, l2, c2, rfl, ho2, hb2⟩
  have HO2 := Lib.hid ho2
  have HB2 := Lib.hid hb2
  have hl2 : l2 ≤ 10 := by have := ho2.len; have := (pint_length f k (s.size : Int)).2; omega
  have hz2 := hb2.size
  clear ho2 hb2
  go_wp2_with (at_builtin; refine wpList_apps _ rfl _ _ elem8 Tryd.underlying9 rfl w.heap.size A2 l2 c2 (pint f k s.size) rfl HO2.out s rfl (by omega) hz2 ?_; intro A3 l3 c3 w3 hl3 hown3 hg3; have HB3 := Lib.hid (below_app HB2.out HO2.out hg3 hz2 (Nat.le_refl _)); have HO3 := Lib.hid hown3; clear hown3 hg3)
  go_ret
  exact ⟨A3, l3, c3, rfl, HO3.out, HB3.out⟩

section
variable {w : World} {A : Option Addr} {n c k : Nat}
/-- The length can't be read. -/
theorem ps_no {sure : Bool} {N U : Int} (h : Calls Tryd.prog 11 #[.slice A n c, .int .i64 k] w fun e w' => e = .returned (.tuple #[.int .u64 N, .int .i64 U, .bool false, .bool sure]) ∧ w = w') :
    Calls Tryd.prog 7 #[.slice A n c, .int .i64 k] w fun e w' => e = .returned (.tuple #[.string ByteArray.empty, .int .i64 0, .bool false, .bool sure]) ∧ w = w' := by
  have H := Lib.hid h
  clear h
  go_enter Tryd.func7, Tryd.ntmps7
  go_wp2_with fail
  refine H.out.mono ?_
  rintro e w' ⟨rfl, rfl⟩
  go_wp2
  exact bodyPost_ret (results_four Tryd.results7 _ _ _) rfl ⟨rfl, rfl⟩
/-- .. is too great. -/
theorem ps_unsure {N U : Int} (h : Calls Tryd.prog 11 #[.slice A n c, .int .i64 k] w fun e w' => e = .returned (.tuple #[.int .u64 N, .int .i64 U, .bool true, .bool false]) ∧ w = w') :
    Calls Tryd.prog 7 #[.slice A n c, .int .i64 k] w fun e w' => e = .returned (.tuple #[.string ByteArray.empty, .int .i64 0, .bool false, .bool false]) ∧ w = w' := by
  have H := Lib.hid h
  clear h
  go_enter Tryd.func7, Tryd.ntmps7
  go_wp2_with fail
  refine H.out.mono ?_
  rintro e w' ⟨rfl, rfl⟩
  go_wp2
  exact bodyPost_ret (results_four Tryd.results7 _ _ _) rfl ⟨rfl, rfl⟩
/-- The string breaks off. -/
theorem ps_short {N U : Nat} (h : Calls Tryd.prog 11 #[.slice A n c, .int .i64 k] w fun e w' => e = .returned (.tuple #[.int .u64 (N : Int), .int .i64 (U : Int), .bool true, .bool true]) ∧ w = w')
    (hU : U ≤ n) (hn : n ≤ 9223372036854775807) (hs : n < U + N) :
    Calls Tryd.prog 7 #[.slice A n c, .int .i64 k] w fun e w' => e = .returned (.tuple #[.string ByteArray.empty, .int .i64 0, .bool false, .bool true]) ∧ w = w' := by
  have H := Lib.hid h
  clear h
  go_enter Tryd.func7, Tryd.ntmps7
  go_wp2_with fail
  refine H.out.mono ?_
  rintro e w' ⟨rfl, rfl⟩
  go_wp2
  exact bodyPost_ret (results_four Tryd.results7 _ _ _) rfl ⟨rfl, rfl⟩
end

theorem bit_and {x : Int} {k : Nat} (h0 : 0 ≤ x) (h1 : x ≤ 255) : bits .and .u8 (x / 2 ^ k) 1 = x / 2 ^ k % 2 := by
  have hp : (0 : Int) < 2 ^ k := Int.pow_pos (by decide)
  have h2 : 0 ≤ x / 2 ^ k := Int.ediv_nonneg h0 (Int.le_of_lt hp)
  have h3 : x / 2 ^ k ≤ x := Int.ediv_le_self _ h0
  have := bits_mask .u8 8 (by decide) wraps_u8 1 (by decide) (x / 2 ^ k) h2 (by omega)
  simpa using this

set_option maxRecDepth 100000 in
set_option maxHeartbeats 400000 in
/-- A string as it is. -/
theorem ps_plain {w : World} {A : Option Addr} {n c k N U : Nat} {x : Int} {r body rest pre : List Int}
    (h : Calls Tryd.prog 11 #[.slice A n c, .int .i64 k] w fun e w' => e = .returned (.tuple #[.int .u64 (N : Int), .int .i64 (U : Int), .bool true, .bool true]) ∧ w = w')
    (hr : Rd .u8 w A (x :: r)) (hn : (x :: r).length = n) (hx0 : 0 ≤ x) (hx1 : x ≤ 255) (hnc : n ≤ c) (hc : c ≤ 9223372036854775807) (hxs : x :: r = pre ++ (body ++ rest)) (hU : pre.length = U) (hN : body.length = N) (hbit : x / 2 ^ k % 2 = 0) (h7 : k ≤ 7) :
    Calls Tryd.prog 7 #[.slice A n c, .int .i64 k] w fun e w' => e = .returned (.tuple #[.string (strOfNums body), .int .i64 ((U + N : Nat) : Int), .bool true, .bool true]) ∧ w = w' := by
  have hlen : U + N ≤ n := by have := congrArg List.length hxs; simp only [List.length_append] at this; omega
  obtain ⟨b, off, rfl, hcx⟩ := hr (by simp)
  have c1 : w.cell? ⟨b, off, none⟩ = some (.int .u8 x) := by simpa [nth_zero] using hcx 0 (by simp)
  have hbz : (bits .and .u8 (x / 2 ^ k) 1 == 0) = true := by rw [bit_and hx0 hx1, hbit]; rfl
  have hn0 : 0 < n := by rw [← hn]; simp
  have hrb : Rd .u8 w (some ⟨b, off + U, none⟩) body := by
    have := (Rd.drop hr U).take N
    rw [hxs, ← hU, List.drop_left, ← hN, List.take_left] at this
    rw [← hU]; exact this
  have H := Lib.hid h
  clear h hcx hbit
  by_cases hcap : c = U
  · have hN0 : N = 0 := by omega
    have hb0 : body = [] := List.eq_nil_of_length_eq_zero (by omega)
    subst hb0
    have cv : ∀ A', (convert 23 9 (.slice A' 0 0)).run Tryd.prog w = .ok (.string (strOfNums [])) w := fun A' => conv_rd (Rd.nil _ _ _) rfl
    subst hN0 hcap
    clear hr hn hxs hU hN hrb
    go_enter Tryd.func7, Tryd.ntmps7
    go_wp2_with fail
    refine H.out.mono ?_
    rintro e w' ⟨rfl, rfl⟩
    go_wp2_with fail
    exact bodyPost_ret (results_four Tryd.results7 _ _ _) rfl ⟨rfl, rfl⟩
  · have cv : (convert 23 9 (.slice (some ⟨b, off + U, none⟩) N (c - U))).run Tryd.prog w = .ok (.string (strOfNums body)) w := conv_rd hrb hN
    have hlt : U < c := by omega
    clear hr hn hxs hU hN hrb hcap
    go_enter Tryd.func7, Tryd.ntmps7
    go_wp2_with fail
    refine H.out.mono ?_
    rintro e w' ⟨rfl, rfl⟩
    go_wp2_with fail
    exact bodyPost_ret (results_four Tryd.results7 _ _ _) rfl ⟨rfl, rfl⟩

/-- What ParseString says of a string in Huffman code. -/
def PsHuff (w : World) (yn : List Nat) (used : Nat) (e : Ending) (w' : World) : Prop :=
  (∃ str ok, e = .returned (.tuple #[.string str, .int .i64 (used : Int), .bool ok, .bool true]) ∧ Unh yn str ok) ∧ Below w.heap.size w w'

set_option maxRecDepth 100000 in
set_option maxHeartbeats 400000 in
/-- A string in Huffman code. -/
theorem ps_huff {w : World} {A : Option Addr} {n c k N U : Nat} {x : Int} {r rest pre : List Int} {yn : List Nat}
    (h : Calls Tryd.prog 11 #[.slice A n c, .int .i64 k] w fun e w' => e = .returned (.tuple #[.int .u64 (N : Int), .int .i64 (U : Int), .bool true, .bool true]) ∧ w = w')
    (hr : Rd .u8 w A (x :: r)) (hn : (x :: r).length = n) (hx0 : 0 ≤ x) (hx1 : x ≤ 255) (hnc : n ≤ c) (hc : c ≤ 9223372036854775807) (hxs : x :: r = pre ++ (nz yn ++ rest)) (hU : pre.length = U) (hN : yn.length = N) (hy : ∀ y ∈ yn, y < 256) (h40 : n ≤ 1099511627776) (hbit : x / 2 ^ k % 2 = 1) (h7 : k ≤ 7) :
    Calls Tryd.prog 7 #[.slice A n c, .int .i64 k] w (PsHuff w yn (U + N)) := by
  have hlen : U + N ≤ n := by have := congrArg List.length hxs; simp only [List.length_append, nz_length] at this; omega
  obtain ⟨b, off, rfl, hcx⟩ := hr (by simp)
  have c1 : w.cell? ⟨b, off, none⟩ = some (.int .u8 x) := by simpa [nth_zero] using hcx 0 (by simp)
  have hbz : (bits .and .u8 (x / 2 ^ k) 1 == 0) = false := by rw [bit_and hx0 hx1, hbit]; rfl
  have hn0 : 0 < n := by rw [← hn]; simp
  have hrb : Rd .u8 w (some ⟨b, off + U, none⟩) (nz yn) := by
    have := (Rd.drop hr U).take N
    rw [hxs, ← hU, List.drop_left, ← hN, ← nz_length yn, List.take_left] at this
    rw [← hU]; exact this
  have H := Lib.hid h
  have hN40 : N ≤ 1099511627776 := by omega
  have HY := Lib.hid (show ∀ y ∈ yn, y ≤ 255 from fun y h => by have := hy y h; omega)
  have HNy := Lib.hid hN
  have Hus := Lib.hid (show (U : Int) + (N : Int) = ((U + N : Nat) : Int) by omega)
  clear h hcx hbit hy
  by_cases hcap : c = U
  · have hN0 : N = 0 := by omega
    have HR : Hid (∀ A', Rd .u8 w A' (nz yn)) := fun A' => by
      have : yn = [] := List.eq_nil_of_length_eq_zero (by omega)
      subst this; exact Rd.nil _ _ _
    subst hN0 hcap
    clear hr hn hxs hU hN hrb
    go_enter Tryd.func7, Tryd.ntmps7
    go_wp2_with fail
    refine H.out.mono ?_
    rintro e w' ⟨rfl, rfl⟩
    go_wp2_with fail
    refine (unh_any (HR.out _) HNy.out hN40 HY.out).mono ?_
    rintro e w1 ⟨⟨str, ok, rfl, hu⟩, hb⟩
    have HU := Lib.hid hu
    have HB := Lib.hid hb
    clear hu hb
    go_wp2
    exact bodyPost_ret (results_four Tryd.results7 _ _ _) rfl ⟨⟨str, ok, rfl, HU.out⟩, HB.out⟩
  · have hlt : U < c := by omega
    have HR := Lib.hid hrb
    have e1 : U + N - U = N := by omega
    clear hr hn hxs hU hN hrb hcap
    go_enter Tryd.func7, Tryd.ntmps7
    go_wp2_with fail
    refine H.out.mono ?_
    rintro e w' ⟨rfl, rfl⟩
    go_wp2_with fail
    refine (unh_any HR.out HNy.out hN40 HY.out).mono ?_
    rintro e w1 ⟨⟨str, ok, rfl, hu⟩, hb⟩
    have HU := Lib.hid hu
    have HB := Lib.hid hb
    clear hu hb
    go_wp2
    exact bodyPost_ret (results_four Tryd.results7 _ _ _) rfl ⟨⟨str, ok, by rw [← Hus.out]; rfl, HU.out⟩, HB.out⟩
end Go.Proofs.YthnaobmepfkkpaaDoor
