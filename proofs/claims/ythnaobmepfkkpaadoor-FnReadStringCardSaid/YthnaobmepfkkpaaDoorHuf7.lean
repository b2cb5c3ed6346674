/- Walk of the reference's Huffman: its function value 'put'. -/
import Derived.Test.YthnaobmepfkkpaaDoorHuf6
import Derived.Test.YthnaobmepfkkpaaDoorFrm1
import Derived.Deep.RegionHeld3
namespace Go.Proofs.YthnaobmepfkkpaaDoor
open Go Go.RowKit

/-- The bits so far: full bytes, and r bits of another one. -/
structure Part (bs : List Nat) (yn : List Nat) (n : Nat) (full : List Nat) (q r : Nat) : Prop where
  n_eq : n = 8 * full.length + r
  r_lt : r < 8
  q_lt : q < 2 ^ r
  bits : bs = bitsB full ++ bitsN q r
  bytes : yn = if r = 0 then full else full ++ [q * 2 ^ (8 - r)]
/-- .. as the two boxes hold it. -/
def Put (w : World) (base P1 P2 : Nat) (bs : List Nat) : Prop :=
  ∃ (yn full : List Nat) (q r n : Nat) (A : Option Addr) (l c : Nat), Part bs yn n full q r ∧ (∀ y ∈ yn, y < 256) ∧ Blk w P1 3 #[.int .i64 n] ∧ Blk w P2 23 #[.slice A l c] ∧ Own .u8 5 w base A l c (nz yn)

theorem or_bit {x b z : Nat} (hx : x % 2 ^ (z + 1) = 0) (hx8 : x < 256) (hb : b ≤ 1) (hz : z < 8) : bits .or .u8 (x : Int) ((b * 2 ^ z : Nat) : Int) = ((x + b * 2 ^ z : Nat) : Int) := by
  have h1 : b * 2 ^ z < 2 ^ (z + 1) := by
    have := Nat.two_pow_pos z
    rw [Nat.pow_succ]
    rcases (show b = 0 ∨ b = 1 by omega) with rfl | rfl <;> omega
  have h2 : b * 2 ^ z < 2 ^ 8 := Nat.lt_of_lt_of_le h1 (Nat.pow_le_pow_right (by decide) (by omega))
  generalize b * 2 ^ z = y at *
  rw [bits_join .u8 8 (by decide) wraps_u8 (z + 1) (x : Int) (y : Int) (by omega) (by exact_mod_cast hx) (by omega) (by omega) (by exact_mod_cast h1) (by exact_mod_cast h2)]
  simp

set_option maxHeartbeats 800000 in
theorem put1 {w : World} {base P1 P2 b : Nat} {bs : List Nat} (h : Put w base P1 P2 bs) (hb : b ≤ 1) (hne : P1 ≠ P2) (hP1 : P1 < base) (hP2 : P2 < base) (hbw : base ≤ w.heap.size) (hl : bs.length ≤ 1099511627776) :
    Calls Tryd.prog 21 #[.int .i64 b, .pointer (some ⟨P1, 0, none⟩), .pointer (some ⟨P2, 0, none⟩)] w fun e w' => e = .returned (.tuple #[]) ∧ Put w' base P1 P2 (bs ++ [b]) ∧ FrB base P1 P2 w w' := by
  obtain ⟨yn, full, q, r, n, A, l, c, hp, hy, hb1, hb2, ho⟩ := h
  have g1 : w.cell? ⟨P1, 0, none⟩ = some (.int .i64 n) := hb1.cell 0
  have g2 : w.cell? ⟨P2, 0, none⟩ = some (.slice A l c) := hb2.cell 0
  have hr8 := hp.r_lt
  have hn8 : (n : Int) % 8 = r := by have := hp.n_eq; omega
  have hnd : (n : Int) / 8 = full.length := by have := hp.n_eq; omega
  have HP := Lib.hid hp
  have HY := Lib.hid hy
  have HB1 := Lib.hid hb1
  have HB2 := Lib.hid hb2
  have HO := Lib.hid ho
  have f1 := hb1.frozen 0
  have f2 := hb2.frozen 0
  clear hp hy hb1 hb2 ho
  by_cases hr0 : r = 0
  · have hyn : yn = full := by have := HP.out.bytes; rwa [if_pos hr0] at this
    have hne1 := Lib.hid ((HO.out.alloc (.cells #[.int .u8 0] 5)).blk_ne (HB1.out.alloc _) (by decide))
    have hne2 := Lib.hid ((HO.out.alloc (.cells #[.int .u8 0] 5)).blk_ne (HB2.out.alloc _) (by decide))
    have hl0 := HO.out.len
    have hfl : 8 * full.length + r = n := HP.out.n_eq.symm
    have hbl : n = bs.length := by
      have h1 := HP.out.bits
      have h2 := HP.out.n_eq
      rw [h1, List.length_append, bitsB_length, bitsN_length]; exact h2
    rw [nz_length, hyn] at hl0
    have hll : l ≤ 1099511627776 := by omega
    have HYF := Lib.hid hyn
    clear hyn hfl hbl
    go_enter Tryd.func21, Tryd.ntmps21
    go_wp2_with (at_builtin; refine wpList_app _ rfl _ _ elem8 rfl base A l c (nz yn) rfl (HO.out.alloc _) _ 1 1 [0] rfl rfl (Rd.one .u8 w 0 5) (by omega) (by omega) (by simp; omega) ?_; intro A1 l1 c1 w1 hl1 hown1 hg1 hat1; have hQ1 : Blk w1 P1 3 _ := (hg1.block P1 (by have := HB1.out.lt; simp; omega) (fun e => hne1.out e.symm)).trans (HB1.out.alloc _); have hS1 : Blk w1 P2 23 _ := (hg1.block P2 (by have := HB2.out.lt; simp; omega) (fun e => hne2.out e.symm)).trans (HB2.out.alloc _); have q1 := hQ1.cell 0; have q2 := hS1.cell 0; have f3 := hQ1.frozen 0; have f4 := hS1.frozen 0; have HB1w := Lib.hid (below_app ((Below.refl base w).alloc hbw _) (HO.out.alloc _) hg1 (by simp; omega) (Nat.le_refl _)); have HO1 := Lib.hid hown1; clear hg1 hat1)
    have hl1 := hl1.out
    have HFl := Lib.hid hl0
    have W1 : Blk (w1.setCell ⟨P2, 0, none⟩ (.slice A1 l1 c1)) P1 3 #[.int .i64 n] := hQ1.far (by simpa using hne) _
    have W2 : Blk (w1.setCell ⟨P2, 0, none⟩ (.slice A1 l1 c1)) P2 23 #[.slice A1 l1 c1] := by simpa using hS1.put 0 (.slice A1 l1 c1)
    have W3 : Own .u8 5 (w1.setCell ⟨P2, 0, none⟩ (.slice A1 l1 c1)) base A1 l1 c1 (nz yn ++ [0]) := HO1.out.keep fun g hg => Below.heap_setCell _ _ _ _ (by rintro rfl; exact HO1.out.blk_ne hS1 (by decide) hg)
    have W4 : FrB base P1 P2 w (w1.setCell ⟨P2, 0, none⟩ (.slice A1 l1 c1)) := (FrB.of_below HB1w.out P1 P2).setCell (.inr rfl) _
    generalize w1.setCell ⟨P2, 0, none⟩ (.slice A1 l1 c1) = W at *
    obtain ⟨g, off, hA, hcl⟩ := W3.rd (by simp)
    obtain ⟨g', cap, hv, hgb, hglt⟩ := World.ownsRow.form W3 (by omega)
    obtain rfl : A1 = some ⟨g', 0, none⟩ := by injection hv
    obtain ⟨rfl, rfl⟩ : g' = g ∧ 0 = off := by simpa using hA
    have kc0 : W.cell? ⟨P1, 0, none⟩ = some (.int .i64 n) := W1.cell 0
    have kc1 : W.cell? ⟨P2, 0, none⟩ = some (.slice (some ⟨g', 0, none⟩) l1 c1) := W2.cell 0
    have kc2 : W.cell? ⟨g', full.length, none⟩ = some (.int .u8 0) := by
      have := hcl full.length (by rw [W3.len]; omega)
      rw [Nat.zero_add] at this
      rw [this, HYF.out, show full.length = (nz full).length by rw [nz_length]]
      unfold nth
      simp
    have f5 : W.frozen? ⟨g', full.length, none⟩ = false := World.ownsRow.frozenAt W3 _
    have f6 := W1.frozen 0
    have hi1 : (0 : Int) ≤ (full.length : Int) := by omega
    have hi2 : (full.length : Int) < (l1 : Int) := by omega
    obtain ⟨fl, hfl⟩ : ∃ fl, fl = full.length := ⟨_, rfl⟩
    rw [← hfl] at hi1 hi2 hnd kc2 f5
    have HFL := Lib.hid hfl
    have hndn : n / 8 = fl := by omega
    have hn7 : IntKind.i64.wrap (7 - (r : Int)) = 7 - r := by rw [IntKind.wrap_i64]; omega
    have hsh : IntKind.i64.wrap ((b : Int) * 128) = b * 128 := by rw [IntKind.wrap_i64]; omega
    have hs8 : IntKind.u8.wrap ((b : Int) * 128) = b * 128 := by rw [IntKind.wrap_u8]; omega
    have hor := or_bit (x := 0) (b := b) (z := 7) (by decide) (by decide) hb (by decide)
    simp only [Nat.zero_add] at hor
    rw [show ((b * 2 ^ 7 : Nat) : Int) = (b : Int) * 128 by omega] at hor
    have hor : bits .or .u8 0 ((b : Int) * 128) = b * 128 := hor
    have hwq : IntKind.i64.wrap ((n : Int) / 8) = fl := by rw [hnd, IntKind.wrap_i64]; omega
    have hwf : IntKind.i64.wrap (fl : Int) = fl := by rw [IntKind.wrap_i64]; omega
    have hw7 : IntKind.i64.wrap (7 - (n : Int) % 8) = 7 := by rw [hn8, hr0]; decide
    have htm : (n : Int).tmod 8 = 0 := by rw [Int.tmod_eq_emod_of_nonneg (by omega), hn8, hr0]; rfl
    have hw70 : IntKind.i64.wrap (7 : Int) = 7 := by decide
    have hw71 : IntKind.i64.wrap (7 - (n : Int).tmod 8) = 7 := by rw [htm]; decide
    have hn40 : n ≤ 8796093022208 := by omega
    clear hfl hl1 hn7
    clear g1 g2 f1 f2 q1 q2 f3 f4 hcl hv hQ1 hS1 hl0 hA
    have HK1 : Hid (∀ v, (W.setCell ⟨g', fl, none⟩ v).cell? ⟨P1, 0, none⟩ = some (.int .i64 n)) := fun v => (W1.far (p := ⟨g', fl, none⟩) (by simp; omega) v).cell 0
    have HK2 : Hid (∀ v, (W.setCell ⟨g', fl, none⟩ v).cell? ⟨P2, 0, none⟩ = some (.slice (some ⟨g', 0, none⟩) l1 c1)) := fun v => (W2.far (p := ⟨g', fl, none⟩) (by simp; omega) v).cell 0
    have w1' := Lib.hid W1
    have w2' := Lib.hid W2
    have w3' := Lib.hid W3
    clear W1 W2 W3 hne1 hne2 hown1
    have kd0 : (W.setCell ⟨g', fl, none⟩ (.int .u8 ((b : Int) * 128))).drew.cell? ⟨P1, 0, none⟩ = some (.int .i64 n) := HK1.out _
    have fd0 : (W.setCell ⟨g', fl, none⟩ (.int .u8 ((b : Int) * 128))).drew.frozen? ⟨P1, 0, none⟩ = false := (w1'.out.far (p := ⟨g', fl, none⟩) (by simp; omega) _).frozen 0
    have hset : (nz yn ++ [0]).set fl ((b : Int) * 128) = nz (full ++ [b * 128]) := by
      rw [HYF.out, HFL.out, nz_append, ← nz_length full, List.set_append_right _ _ (Nat.le_refl _)]
      simp [nz]
    have x3 := (Own.set w3'.out fl ((b : Int) * 128))
    rw [hset] at x3
    have x1 := w1'.out.far (p := ⟨g', fl, none⟩) (by simp; omega) (.int .u8 ((b : Int) * 128))
    have x2 := w2'.out.far (p := ⟨g', fl, none⟩) (by simp; omega) (.int .u8 ((b : Int) * 128))
    have y1 := x1.put 0 (.int .i64 ((n : Int) + 1))
    have y2 := x2.far (p := ⟨P1, 0, none⟩) (by simpa using Ne.symm hne) (.int .i64 ((n : Int) + 1))
    have y3 := x3.keep (w' := (W.setCell ⟨g', fl, none⟩ (.int .u8 ((b : Int) * 128))).setCell ⟨P1, 0, none⟩ (.int .i64 ((n : Int) + 1))) fun g hg => Below.heap_setCell _ _ _ _ (by rintro rfl; exact x3.blk_ne x1 (by decide) hg)
    have y4 : FrB base P1 P2 w ((W.setCell ⟨g', fl, none⟩ (.int .u8 ((b : Int) * 128))).setCell ⟨P1, 0, none⟩ (.int .i64 ((n : Int) + 1))) :=
      (⟨W4.os, W4.tape, W4.output, by simpa [World.setCell] using W4.size, fun k hk h1 h2 => (Below.heap_setCell W _ _ k (by simp; omega)).trans (W4.block k hk h1 h2)⟩ : FrB base P1 P2 w (W.setCell ⟨g', fl, none⟩ (.int .u8 ((b : Int) * 128)))).setCell (.inl rfl) _
    have hpart : Part (bs ++ [b]) (full ++ [b * 128]) (n + 1) full b 1 := by
      have h := HP.out
      refine ⟨by have := h.n_eq; omega, by omega, by omega, ?_, by rw [if_neg (by omega)]⟩
      rw [h.bits, hr0]
      simp only [bitsN, List.append_nil, Nat.pow_zero, Nat.div_one]
      rw [Nat.mod_eq_of_lt (by omega)]
    have hfin := Lib.hid (show Put ((W.setCell ⟨g', fl, none⟩ (.int .u8 ((b : Int) * 128))).setCell ⟨P1, 0, none⟩ (.int .i64 ((n : Int) + 1))) base P1 P2 (bs ++ [b]) from
      ⟨full ++ [b * 128], full, b, 1, n + 1, _, l1, _, hpart, (fun y hy => by
        rcases List.mem_append.1 hy with hy | hy
        · exact HY.out y (by rw [HYF.out]; exact hy)
        · simp at hy; omega), by simpa using y1, y2, y3⟩)
    have hfr := Lib.hid y4
    clear x1 x2 x3 y1 y2 y3 y4 W4 hset hpart HK1 HK2 w1' w2' w3'
    go_region_with (fail)
    all_goals
      go_wp2
      go_end0
      exact ⟨rfl, hfin.out, ⟨hfr.out.os, hfr.out.tape, hfr.out.output, hfr.out.size, hfr.out.block⟩⟩
  · have hyn : yn = full ++ [q * 2 ^ (8 - r)] := by have := HP.out.bytes; rwa [if_neg hr0] at this
    have hrne : ((r : Int) == 0) = false := by rw [beq_eq_false_iff_ne]; omega
    have hl0 := HO.out.len
    have hbl : n = bs.length := by
      have h1 := HP.out.bits
      have h2 := HP.out.n_eq
      rw [h1, List.length_append, bitsB_length, bitsN_length]; exact h2
    have hn40 : n ≤ 8796093022208 := by omega
    have hql := HP.out.q_lt
    obtain ⟨sh, hsh⟩ : ∃ sh, sh = 7 - r := ⟨_, rfl⟩
    obtain ⟨x, hx⟩ : ∃ x, x = q * 2 ^ (8 - r) := ⟨_, rfl⟩
    obtain ⟨v, hv⟩ : ∃ v, v = b * 2 ^ sh := ⟨_, rfl⟩
    have hpw : 2 ^ sh ≤ 64 := by
      have : 2 ^ sh ≤ 2 ^ 6 := Nat.pow_le_pow_right (by decide) (by omega)
      omega
    have hv64 : v ≤ 64 := by
      rw [hv]
      rcases (show b = 0 ∨ b = 1 by omega) with rfl | rfl <;> omega
    have hx8 : x < 256 := HY.out x (by rw [hyn, hx]; simp)
    have hxm : x % 2 ^ (sh + 1) = 0 := by rw [hx, hsh, show 7 - r + 1 = 8 - r by omega, Nat.mul_mod_left]
    have hor := or_bit hxm hx8 hb (show sh < 8 by omega)
    rw [← hv] at hor
    obtain ⟨y, hy⟩ : ∃ y, y = x + v := ⟨_, rfl⟩
    rw [← hy] at hor
    have hyq : y = (2 * q + b) * 2 ^ sh := by
      rw [hy, hx, hv, hsh, show 8 - r = 7 - r + 1 by omega, Nat.pow_succ, Nat.add_mul]
      congr 1
      rw [Nat.mul_comm 2 q, Nat.mul_assoc, Nat.mul_comm 2]
    have hq2 : 2 * q + b < 2 ^ (r + 1) := by rw [Nat.pow_succ]; omega
    have hy8 : y < 256 := by
      rw [hyq]
      have h1 : (2 * q + b) * 2 ^ sh < 2 ^ (r + 1) * 2 ^ sh := Nat.mul_lt_mul_of_pos_right hq2 (Nat.two_pow_pos _)
      rw [← Nat.pow_add, show r + 1 + sh = 8 by omega] at h1
      exact h1
    obtain ⟨fl, hfl⟩ : ∃ fl, fl = full.length := ⟨_, rfl⟩
    rw [← hfl] at hnd
    have hlfl : l = fl + 1 := by
      rw [nz_length, hyn, List.length_append] at hl0
      simp at hl0
      omega
    obtain ⟨g, off, hA, hcl⟩ := HO.out.rd (by intro e; have := congrArg List.length e; simp [nz, hyn] at this)
    obtain ⟨g', cap, hvv, hgb, hglt⟩ := World.ownsRow.form HO.out (by omega)
    obtain rfl : A = some ⟨g', 0, none⟩ := by injection hvv
    obtain ⟨rfl, rfl⟩ : g' = g ∧ 0 = off := by simpa using hA
    have kc2 : w.cell? ⟨g', fl, none⟩ = some (.int .u8 x) := by
      have := hcl fl (by rw [hl0]; omega)
      rw [Nat.zero_add] at this
      rw [this, hyn, nz_append, hfl, ← nz_length full, hx]
      unfold nth
      simp [nz]
    have f5 : w.frozen? ⟨g', fl, none⟩ = false := World.ownsRow.frozenAt HO.out _
    have hi1 : (0 : Int) ≤ (fl : Int) := by omega
    have hi2 : (fl : Int) < (l : Int) := by omega
    have hwq : IntKind.i64.wrap ((n : Int) / 8) = fl := by rw [hnd, IntKind.wrap_i64]; omega
    have hwf : IntKind.i64.wrap (fl : Int) = fl := by rw [IntKind.wrap_i64]; omega
    have hw7 : IntKind.i64.wrap (7 - (n : Int) % 8) = sh := by rw [hn8, IntKind.wrap_i64]; omega
    have htm : (n : Int).tmod 8 = r := by rw [Int.tmod_eq_emod_of_nonneg (by omega), hn8]
    have hw70 : IntKind.i64.wrap (7 - (r : Int)) = sh := by rw [IntKind.wrap_i64]; omega
    have hw71 : IntKind.i64.wrap (7 - (n : Int).tmod 8) = sh := by rw [htm, IntKind.wrap_i64]; omega
    have hshw : IntKind.i64.wrap ((b : Int) * 2 ^ sh) = v := by
      rw [show (b : Int) * 2 ^ sh = (v : Int) by rw [hv]; simp, IntKind.wrap_i64]; omega
    have hs8 : IntKind.u8.wrap (v : Int) = v := by rw [IntKind.wrap_u8]; omega
    have hform := Lib.hid (show bits .or .u8 (x : Int) (wrap64 ((b : Int) * 2 ^ min sh 64) % 256) = y by
      rw [show min sh 64 = sh by omega, show (b : Int) * 2 ^ sh = (v : Int) by rw [hv]; simp, IntWalk.wrap64_in _ (by omega), show (v : Int) % 256 = v by omega, hor])
    have hndn : n / 8 = fl := by omega
    have kd0 : (w.setCell ⟨g', fl, none⟩ (.int .u8 (y : Int))).drew.cell? ⟨P1, 0, none⟩ = some (.int .i64 n) := (HB1.out.far (p := ⟨g', fl, none⟩) (by simp; omega) _).cell 0
    have fd0 : (w.setCell ⟨g', fl, none⟩ (.int .u8 (y : Int))).drew.frozen? ⟨P1, 0, none⟩ = false := (HB1.out.far (p := ⟨g', fl, none⟩) (by simp; omega) _).frozen 0
    have hset : (nz yn).set fl (y : Int) = nz (full ++ [y]) := by
      rw [hyn, hfl, nz_append, nz_append, ← nz_length full, List.set_append_right _ _ (Nat.le_refl _)]
      simp [nz]
    have x3 := (Own.set HO.out fl (y : Int))
    rw [hset] at x3
    have x1 := HB1.out.far (p := ⟨g', fl, none⟩) (by simp; omega) (.int .u8 (y : Int))
    have x2 := HB2.out.far (p := ⟨g', fl, none⟩) (by simp; omega) (.int .u8 (y : Int))
    have y1 := x1.put 0 (.int .i64 ((n : Int) + 1))
    have y2 := x2.far (p := ⟨P1, 0, none⟩) (by simpa using Ne.symm hne) (.int .i64 ((n : Int) + 1))
    have y3 := x3.keep (w' := (w.setCell ⟨g', fl, none⟩ (.int .u8 (y : Int))).setCell ⟨P1, 0, none⟩ (.int .i64 ((n : Int) + 1))) fun g hg => Below.heap_setCell _ _ _ _ (by rintro rfl; exact x3.blk_ne x1 (by decide) hg)
    have y4 : FrB base P1 P2 w ((w.setCell ⟨g', fl, none⟩ (.int .u8 (y : Int))).setCell ⟨P1, 0, none⟩ (.int .i64 ((n : Int) + 1))) :=
      (⟨rfl, rfl, rfl, by simp [World.setCell], fun k hk h1 h2 => Below.heap_setCell w _ _ k (by simp; omega)⟩ : FrB base P1 P2 w (w.setCell ⟨g', fl, none⟩ (.int .u8 (y : Int)))).setCell (.inl rfl) _
    have hbits : bitsN q r ++ [b] = bitsN (2 * q + b) (r + 1) := by
      have := bitsN_join q b r 1 (by omega)
      rw [Nat.pow_one, Nat.mul_comm] at this
      rw [this]
      simp only [bitsN, Nat.pow_zero, Nat.div_one]
      rw [Nat.mod_eq_of_lt (by omega)]
    have hbig : ∃ full2 q2 r2, Part (bs ++ [b]) (full ++ [y]) (n + 1) full2 q2 r2 := by
      have h := HP.out
      by_cases h7 : r = 7
      · refine ⟨full ++ [y], 0, 0, ?_, by omega, by simp, ?_, by rw [if_pos rfl]⟩
        · have := h.n_eq; simp; omega
        · rw [h.bits, List.append_assoc, hbits, bitsB_append, hyq, hsh, h7]
          simp [bitsB, bitsN]
      · refine ⟨full, 2 * q + b, r + 1, by have := h.n_eq; omega, by omega, hq2, by rw [h.bits, List.append_assoc, hbits], ?_⟩
        rw [if_neg (by omega), hyq, hsh, show 7 - r = 8 - (r + 1) by omega]
    obtain ⟨full2, q2, r2, hpart⟩ := hbig
    have hfin := Lib.hid (show Put ((w.setCell ⟨g', fl, none⟩ (.int .u8 (y : Int))).setCell ⟨P1, 0, none⟩ (.int .i64 ((n : Int) + 1))) base P1 P2 (bs ++ [b]) from
      ⟨full ++ [y], full2, q2, r2, n + 1, _, l, _, hpart, (fun u hu => by
        rcases List.mem_append.1 hu with hu | hu
        · exact HY.out u (by rw [hyn]; exact List.mem_append_left _ hu)
        · simp at hu; omega), by simpa using y1, y2, y3⟩)
    have hfr := Lib.hid y4
    clear x1 x2 x3 y1 y2 y3 y4 hset hpart hbits hyq hq2 hy hx hv hsh hyn hl0 hbl hlfl hfl hcl hA hvv hxm hpw hql HP HY HB1 HB2 HO
    go_enter Tryd.func21, Tryd.ntmps21
    go_wp2_with fail
    go_region_with (fail)
    all_goals
      go_wp2
      go_end0
      rw [hform.out]
      exact ⟨rfl, hfin.out, ⟨hfr.out.os, hfr.out.tape, hfr.out.output, hfr.out.size, hfr.out.block⟩⟩
end Go.Proofs.YthnaobmepfkkpaaDoor
