/- Walk of the reference's Huffman. -/
import Derived.Test.YthnaobmepfkkpaaDoorHuf7
namespace Go.Proofs.YthnaobmepfkkpaaDoor
open Go Go.RowKit

theorem run_makeFunc (fn : Fn) (first cap : Array Value) (w : World) : (Instr.makeFunc fn first cap).run Tryd.prog w = .ok (.func fn first cap) w := rfl
theorem Put.new {w : World} {base P1 P2 : Nat} (h1 : Blk w P1 3 #[.int .i64 0]) (h2 : Blk w P2 23 #[.slice none 0 0]) : Put w base P1 P2 [] :=
  ⟨[], [], 0, 0, 0, none, 0, 0, ⟨rfl, by omega, by simp, rfl, rfl⟩, (fun _ h => by cases h), h1, h2, Own.nil _ _ _ _⟩
theorem Put.drew {w : World} {base P1 P2 : Nat} {bs : List Nat} (h : Put w base P1 P2 bs) : Put w.drew base P1 P2 bs := h
/-- How many bits there are. -/
theorem Put.at_ {w : World} {base P1 P2 : Nat} {bs : List Nat} (h : Put w base P1 P2 bs) : w.cell? ⟨P1, 0, none⟩ = some (.int .i64 (bs.length : Nat)) := by
  obtain ⟨yn, full, q, r, n, A, l, c, hp, _, h1, _⟩ := h
  have := h1.cell 0
  rw [this]
  have h2 := hp.n_eq
  have h3 : bs.length = n := by rw [hp.bits, List.length_append, bitsB_length, bitsN_length]; exact h2.symm
  rw [h3]; rfl
theorem Put.full {w : World} {base P1 P2 : Nat} {bs : List Nat} (h : Put w base P1 P2 bs) (h8 : bs.length % 8 = 0) : ∃ yn A l c, bs = bitsB yn ∧ (∀ y ∈ yn, y < 256) ∧ w.cell? ⟨P2, 0, none⟩ = some (.slice A l c) ∧ Own .u8 5 w base A l c (nz yn) := by
  obtain ⟨yn, full, q, r, n, A, l, c, hp, hy, _, h2, ho⟩ := h
  have e1 := hp.n_eq
  have e2 : bs.length = n := by rw [hp.bits, List.length_append, bitsB_length, bitsN_length]; exact e1.symm
  have r0 : r = 0 := by have := hp.r_lt; omega
  have e3 := hp.bytes
  rw [if_pos r0] at e3
  refine ⟨yn, A, l, c, ?_, hy, h2.cell 0, ho⟩
  rw [hp.bits, r0, e3]; simp [bitsN]
theorem bits_one {p : Nat} : bitsN (2 ^ p - 1) p ++ [1] = bitsN (2 ^ (p + 1) - 1) (p + 1) := by
  have hp := Nat.two_pow_pos p
  have := bitsN_join (2 ^ p - 1) 1 p 1 (by omega)
  rw [show (2 ^ p - 1) * 2 ^ 1 + 1 = 2 ^ (p + 1) - 1 by rw [Nat.pow_succ]; omega] at this
  rw [this]; rfl
theorem bits_next {x L t : Nat} (h : t < L) : bitsN (x / 2 ^ (t + 1)) (L - (t + 1)) ++ [x / 2 ^ t % 2] = bitsN (x / 2 ^ t) (L - t) := by
  have := bitsN_add (x / 2 ^ t) (L - (t + 1)) 1
  rw [show L - (t + 1) + 1 = L - t by omega, Nat.div_div_eq_div_mul, ← Nat.pow_add] at this
  rw [this]
  simp [bitsN]
/-- What is still to come of a byte. -/
def left8 (wr : World) (P1 : Nat) : Nat := match wr.cell? ⟨P1, 0, none⟩ with
  | some (.int _ n) => (8 - n.toNat % 8) % 8
  | _ => 0
theorem Put.left {w : World} {base P1 P2 : Nat} {bs : List Nat} (h : Put w base P1 P2 bs) : left8 w P1 = (8 - bs.length % 8) % 8 := by
  unfold left8; rw [h.at_]; rfl
theorem Own.low {k : IntKind} {e : TypeId} {w : World} {base base' n c : Nat} {A : Option Addr} {xs : List Int} (h : Own k e w base A n c xs) (hb : base' ≤ base) : Own k e w base' A n c xs := by
  obtain ⟨h1, h2⟩ := h
  refine ⟨h1, ?_⟩
  rcases h2 with h2 | ⟨g, cap, cur, hv, hg, r⟩
  · exact .inl h2
  · exact .inr ⟨g, cap, cur, hv, Nat.le_trans hb hg, r⟩
theorem FrB.belowB {D P1 P2 B : Nat} {w w' : World} (h : FrB D P1 P2 w w') (hD : B ≤ D) (h1 : B ≤ P1) (h2 : B ≤ P2) : Below B w w' := ⟨h.os, h.tape, h.output, h.size, fun k hk => h.block k (by omega) (by omega) (by omega)⟩

theorem bit_of {C t : Nat} {k : Int} (hk : k.toNat = t) (hC : C < 1073741824) : bits .and .i64 ((C : Int) / 2 ^ k.toNat) 1 = ((C / 2 ^ t % 2 : Nat) : Int) := by
  rw [hk]
  have e : (C : Int) / 2 ^ t = ((C / 2 ^ t : Nat) : Int) := by simp
  rw [e]
  have h : C / 2 ^ t < 1073741824 := Nat.lt_of_le_of_lt (Nat.div_le_self _ _) hC
  generalize C / 2 ^ t = x at *
  have := bits_mask .i64 63 (by decide) (fun n a c => IntWalk.i64_in n (by omega)) 1 (by decide) (x : Int) (by omega) (by omega)
  simpa using this
theorem hC_lt (s : Nat) (h : s < 257) : hC s < 1073741824 := by
  have h1 := code.lt s h
  have h2 := (code.pos s h).2
  exact Nat.lt_of_lt_of_le h1 (Nat.le_trans (Nat.pow_le_pow_right (by decide) h2) (by decide))

set_option maxRecDepth 100000 in
set_option maxHeartbeats 1600000 in
theorem huffman_any {w : World} {s : ByteArray} (hs : s.size ≤ 2147483647) :
    Calls Tryd.prog 16 #[.string s] w fun e w' => (∃ A' l' c' yn p, e = .returned (.slice A' l' c') ∧ Own .u8 5 w' w.heap.size A' l' c' (nz yn) ∧ p < 8 ∧ bitsB yn = hb s s.size ++ bitsN (2 ^ p - 1) p ∧ (∀ y ∈ yn, y < 256)) ∧ Below w.heap.size w w' := by
  have hmf := run_makeFunc
  go_enter Tryd.func16, Tryd.ntmps16
  go_wp2_with fail
  refine (lengths_any w).mono ?_
  rintro e w1 ⟨rfl, ho1, hb1⟩
  have HO1 := Lib.hid ho1
  have HB1 := Lib.hid hb1
  clear ho1 hb1
  go_wp2_with fail
  refine (codes_any HO1.out.rd).mono ?_
  rintro e w2 ⟨rfl, ho2, hb2⟩
  have HB2 := Lib.hid (HB1.out.trans (hb2.mono HB1.out.size))
  have HL : Hid (∀ x, x < 257 → w2.cell? ⟨w.heap.size, x, none⟩ = some (.int .i64 (hL x : Nat))) := fun x hx => by
    obtain ⟨b', off', hA, h⟩ := (Own.below HO1.out hb2 (Nat.le_refl _)).rd (by intro e; have := lensI_len; rw [e] at this; simp at this)
    obtain ⟨rfl, rfl⟩ : w.heap.size = b' ∧ 0 = off' := by simpa using hA
    have := h x (by rw [lensI_len]; exact hx)
    rw [Nat.zero_add] at this
    rw [this, lens_at hx]
  have HC : Hid (∀ x, x < 257 → w2.cell? ⟨w1.heap.size, x, none⟩ = some (.int .i64 (hC x : Nat))) := fun x hx => by
    obtain ⟨b', off', hA, h⟩ := ho2.rd (by intro e; have := codesI_len; rw [e] at this; simp at this)
    obtain ⟨rfl, rfl⟩ : w1.heap.size = b' ∧ 0 = off' := by simpa using hA
    have := h x (by rw [codesI_len]; exact hx)
    rw [Nat.zero_add] at this
    rw [this, codes_at hx]
  have hz1 : w.heap.size < w1.heap.size := by
    obtain ⟨g, cap, hv, _, hlt⟩ := World.ownsRow.form HO1.out (by omega)
    have : w.heap.size = g := by injection hv with h; injection h with h; injection h
    omega
  have hz2 : w1.heap.size < w2.heap.size := by
    obtain ⟨g, cap, hv, _, hlt⟩ := World.ownsRow.form ho2 (by omega)
    have : w1.heap.size = g := by injection hv with h; injection h with h; injection h
    omega
  clear ho2 hb2 HO1 HB1
  go_wp2
  have HN := Lib.hid (show Put ((w2.alloc (Obj.cells #[Value.slice none 0 0] 23)).alloc (Obj.cells #[Value.int IntKind.i64 0] 3)) (w2.heap.size + 2) (w2.heap.size + 1) w2.heap.size [] from
    Put.new (by simpa using Blk.new (w2.alloc (Obj.cells #[Value.slice none 0 0] 23)) 3 #[.int .i64 0]) ((Blk.new w2 23 #[.slice none 0 0]).alloc _))
  have HF0 := Lib.hid (show Below w2.heap.size w2 ((w2.alloc (Obj.cells #[Value.slice none 0 0] 23)).alloc (Obj.cells #[Value.int IntKind.i64 0] 3)) from ((Below.refl _ _).alloc (Nat.le_refl _) _).alloc (by simp) _)
  have hz0 : w2.heap.size + 2 ≤ ((w2.alloc (Obj.cells #[Value.slice none 0 0] 23)).alloc (Obj.cells #[Value.int IntKind.i64 0] 3)).heap.size := by simp
  generalize (w2.alloc (Obj.cells #[Value.slice none 0 0] 23)).alloc (Obj.cells #[Value.int IntKind.i64 0] 3) = w3 at *
  go_loopw [8, 9, 16] (fun _ _ iv wr => ∃ j : Nat, j ≤ s.size ∧ iv = .int .i64 j ∧ Put wr (w2.heap.size + 2) (w2.heap.size + 1) w2.heap.size (hb s j) ∧ Below w2.heap.size w2 wr ∧ w2.heap.size + 2 ≤ wr.heap.size) (fun _ _ iv _ => s.size + 1 - (intOf iv).toNat)
  case atStart => exact ⟨0, by omega, rfl, HN.out, HF0.out, hz0⟩
  case round =>
    obtain ⟨j, hj, rfl, hp, hbr, hzr⟩ := hrel
    have HP := Lib.hid hp
    have HB := Lib.hid hbr
    clear hp hbr HN HF0
    have hl30 := hb_len_le s j
    by_cases hlt : j < s.size
    · have hbx := byt_at hlt
      have hx := byt_lt s j
      have HS := Lib.hid (hb_succ s j)
      have HT := Lib.hid hl30
      have c1 : wr.cell? ⟨w.heap.size, byt s j, none⟩ = some (.int .i64 (hL (byt s j) : Nat)) := (HB.out.cell (p := ⟨w.heap.size, byt s j, none⟩) (by show w.heap.size < _; omega)).trans (HL.out _ (by omega))
      obtain ⟨hL1, hL30⟩ := code.pos (byt s j) (by omega)
      have hx2 : (byt s j : Int) < 257 := by omega
      go_wp2
      obtain ⟨wo, hwo⟩ : ∃ wo : World, wo = wr := ⟨_, rfl⟩
      go_loopw [9] (fun kv wr2 => ∃ (t : Nat) (k : Int), k + 1 ≤ t ∧ t ≤ k + 1 ∧ t ≤ hL (byt s j) ∧ kv = .int .i64 k ∧ Put wr2 (w2.heap.size + 2) (w2.heap.size + 1) w2.heap.size (hb s j ++ bitsN (hC (byt s j) / 2 ^ t) (hL (byt s j) - t)) ∧ Below w2.heap.size w2 wr2 ∧ w2.heap.size + 2 ≤ wr2.heap.size) (fun kv _ => (intOf kv + 1).toNat)
      case atStart => exact ⟨hL (byt s j), _, by omega, by omega, by omega, rfl, by simpa [bitsN] using HP.out, HB.out, hzr⟩
      case round =>
        obtain ⟨t, k, hk1, hk2, htL, rfl, hp2, hb2, hz3⟩ := hrel
        have HP2 := Lib.hid hp2
        have HB2r := Lib.hid hb2
        clear hp2 hb2
        by_cases ht : t = 0
        · have hk : ¬ (0 ≤ k) := by omega
          have hbits : hb s j ++ bitsN (hC (byt s j) / 2 ^ t) (hL (byt s j) - t) = hb s (j + 1) := by rw [ht, HS.out, Nat.pow_zero, Nat.div_one, Nat.sub_zero]
          have HP3 := Lib.hid (show Put wr (w2.heap.size + 2) (w2.heap.size + 1) w2.heap.size (hb s (j + 1)) by rw [← hbits]; exact HP2.out)
          clear hbits
          go_wp2
          go_roundw
          case rel => exact ⟨j + 1, by omega, by go_num, HP3.out, HB2r.out, hz3⟩
          case measure => simp [intOf]; omega
        · have hk : 0 ≤ k := by omega
          have c2 : wr.cell? ⟨w1.heap.size, byt s j, none⟩ = some (.int .i64 (hC (byt s j) : Nat)) := (HB2r.out.cell (p := ⟨w1.heap.size, byt s j, none⟩) (by show w1.heap.size < _; omega)).trans (HC.out _ (by omega))
          obtain ⟨u, hu⟩ : ∃ u, u + 1 = t := ⟨t - 1, by omega⟩
          have Hbit := Lib.hid (bit_of (C := hC (byt s j)) (show k.toNat = u by omega) (hC_lt _ (by omega)))
          have Hnx := Lib.hid (bits_next (x := hC (byt s j)) (L := hL (byt s j)) (t := u) (by omega))
          have Hlen := Lib.hid (show (hb s j ++ bitsN (hC (byt s j) / 2 ^ t) (hL (byt s j) - t)).length ≤ 1099511627776 by rw [List.length_append, bitsN_length]; omega)
          have Hu := Lib.hid hu
          clear hu
          go_wp2_with fail
          rw [Hbit.out]
          refine (put1 HP2.out (by omega) (by omega) (by omega) (by omega) (by omega) Hlen.out).mono ?_
          rintro e w4 ⟨rfl, hp4, hf4⟩
          have HP4 := Lib.hid (show Put w4 (w2.heap.size + 2) (w2.heap.size + 1) w2.heap.size (hb s j ++ bitsN (hC (byt s j) / 2 ^ u) (hL (byt s j) - u)) by
            rw [← Hu.out, List.append_assoc, Hnx.out] at hp4; exact hp4)
          have HB4 := Lib.hid (HB2r.out.trans (hf4.belowB (B := w2.heap.size) (by omega) (by omega) (by omega)))
          have hz4 := hf4.size
          clear hp4 hf4 HP2 HB2r Hlen Hnx Hbit
          go_wp2
          go_roundw
          case rel => exact ⟨u, k - 1, by have := Hu.out; omega, by have := Hu.out; omega, by have := Hu.out; omega, by go_num, HP4.out, HB4.out, by omega⟩
          case measure => simp [intOf]; omega
    · obtain rfl : j = s.size := by omega
      obtain ⟨T, hT⟩ : ∃ T, T = (hb s s.size).length := ⟨_, rfl⟩
      have hT2 : T ≤ 64424509410 := by omega
      have HT := Lib.hid hT
      clear hT hl30
      go_wp2
      obtain ⟨wo, hwo⟩ : ∃ wo : World, wo = wr := ⟨_, rfl⟩
      go_loopw [42] (fun _ wr2 => ∃ p : Nat, p ≤ (8 - T % 8) % 8 ∧ Put wr2 (w2.heap.size + 2) (w2.heap.size + 1) w2.heap.size (hb s s.size ++ bitsN (2 ^ p - 1) p) ∧ Below w2.heap.size w2 wr2 ∧ w2.heap.size + 2 ≤ wr2.heap.size) (fun _ wr2 => left8 wr2 (w2.heap.size + 1))
      case atStart => exact ⟨0, by omega, by simpa [bitsN] using HP.out, HB.out, hzr⟩
      case round =>
        obtain ⟨p, hp8, hp2, hb2, hz3⟩ := hrel
        have hlen : (hb s s.size ++ bitsN (2 ^ p - 1) p).length = T + p := by rw [List.length_append, bitsN_length, HT.out]
        have g1 : wr.cell? ⟨w2.heap.size + 1, 0, none⟩ = some (.int .i64 ((T + p : Nat) : Int)) := by have := hp2.at_; rwa [hlen] at this
        have Hleft := Lib.hid (show left8 wr (w2.heap.size + 1) = (8 - (T + p) % 8) % 8 by have := hp2.left; rwa [hlen] at this)
        have HP2 := Lib.hid hp2
        have HB2r := Lib.hid hb2
        have Hlen := Lib.hid hlen
        clear hp2 hb2 hlen
        by_cases ht : (T + p) % 8 = 0
        · have hq : (((T + p : Nat) : Int) % 8 == 0) = true := by rw [beq_iff_eq]; omega
          obtain ⟨yn, A, l, c, e1, e2, e3, e4⟩ := HP2.out.full (by rw [Hlen.out]; exact ht)
          have E1 := Lib.hid e1
          have E2 := Lib.hid e2
          have E4 := Lib.hid e4
          clear e1 e2 e4
          go_wp2
          go_ret
          exact ⟨⟨A, l, c, yn, p, rfl, E4.out.low (by omega), by omega, E1.out.symm, E2.out⟩, HB2.out.trans (HB2r.out.mono (by omega))⟩
        · have hq : (((T + p : Nat) : Int) % 8 == 0) = false := by rw [beq_eq_false_iff_ne]; omega
          have Hone := Lib.hid (bits_one (p := p))
          go_wp2_with fail
          refine (put1 (b := 1) HP2.out (by decide) (by omega) (by omega) (by omega) (by omega) (by rw [Hlen.out]; omega)).mono ?_
          rintro e w4 ⟨rfl, hp4, hf4⟩
          rw [List.append_assoc, Hone.out] at hp4
          have HP4 := Lib.hid hp4
          have Hlen4 := Lib.hid (show (hb s s.size ++ bitsN (2 ^ (p + 1) - 1) (p + 1)).length = T + (p + 1) by rw [List.length_append, bitsN_length, HT.out])
          have HB4 := Lib.hid (HB2r.out.trans (hf4.belowB (B := w2.heap.size) (by omega) (by omega) (by omega)))
          have hz4 := hf4.size
          clear hp4 hf4 HP2 HB2r Hone
          go_wp2
          go_roundw
          case rel => exact ⟨p + 1, by omega, HP4.out, HB4.out, by omega⟩
          case measure => rw [Hleft.out, HP4.out.left, Hlen4.out]; omega
end Go.Proofs.YthnaobmepfkkpaaDoor
