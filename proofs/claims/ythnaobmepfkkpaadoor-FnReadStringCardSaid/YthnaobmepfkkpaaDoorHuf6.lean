/- Walk of AppendHuffmanString. -/
import Derived.Test.YthnaobmepfkkpaaDoorHuf5
namespace Go.Proofs.YthnaobmepfkkpaaDoor
open Go Go.RowKit

/-- Plain numbers as the values' numbers. -/
def nz (l : List Nat) : List Int := List.map (fun x : Nat => (x : Int)) l
theorem nz_append (a b : List Nat) : nz (a ++ b) = nz a ++ nz b := by unfold nz; exact List.map_append
theorem nz_length (a : List Nat) : (nz a).length = a.length := by unfold nz; exact List.length_map ..
/-- Further bits behind the ones in the buffer. -/
theorem push_bits {X L C n : Nat} (hC : C < 2 ^ L) (hL : L ≤ 30) (hn : n ≤ 31) : bitsN (X * 2 ^ L % 2 ^ 64 + C) (n + L) = bitsN X n ++ bitsN C L := by
  have e : X * 2 ^ L % 2 ^ 64 = X % 2 ^ (64 - L) * 2 ^ L := by
    rw [show (2 : Nat) ^ 64 = 2 ^ (64 - L) * 2 ^ L by rw [← Nat.pow_add]; congr 1; omega, Nat.mul_mod_mul_right]
  rw [e, bitsN_join _ _ _ _ hC, bitsN_mod _ _ _ (by omega)]
theorem four_bytes (Y : Nat) : bitsN Y 32 = bitsB [Y / 16777216 % 256, Y / 65536 % 256, Y / 256 % 256, Y % 256] := by
  rw [show (32 : Nat) = 8 + (8 + (8 + 8)) by rfl, bitsN_add, bitsN_add _ 8 (8 + 8), bitsN_add _ 8 8]
  simp only [bitsB, List.append_nil]
  have m : ∀ z : Nat, bitsN (z % 256) 8 = bitsN z 8 := fun z => bitsN_mod z 8 8 (Nat.le_refl _)
  rw [m, m, m, m]

theorem bytes1 (Z : Nat) : bitsN Z 8 = bitsB [Z % 256] := by
  simp only [bitsB, List.append_nil]
  exact (bitsN_mod Z 8 8 (Nat.le_refl _)).symm
theorem bytes2 (Z : Nat) : bitsN Z 16 = bitsB [Z / 256 % 256, Z % 256] := by
  rw [show (16 : Nat) = 8 + 8 by rfl, bitsN_add]
  simp only [bitsB, List.append_nil]
  have m : ∀ z : Nat, bitsN (z % 256) 8 = bitsN z 8 := fun z => bitsN_mod z 8 8 (Nat.le_refl _)
  rw [m, m]
theorem bytes3 (Z : Nat) : bitsN Z 24 = bitsB [Z / 65536 % 256, Z / 256 % 256, Z % 256] := by
  rw [show (24 : Nat) = 8 + (8 + 8) by rfl, bitsN_add, bitsN_add _ 8 8]
  simp only [bitsB, List.append_nil]
  have m : ∀ z : Nat, bitsN (z % 256) 8 = bitsN z 8 := fun z => bitsN_mod z 8 8 (Nat.le_refl _)
  rw [m, m, m]
theorem bytes4 (Z : Nat) : bitsN Z 32 = bitsB [Z / 16777216 % 256, Z / 65536 % 256, Z / 256 % 256, Z % 256] := four_bytes Z
theorem or_shift {X L C : Nat} (hL : L ≤ 64) (hC : C < 2 ^ L) : bits .or .u64 (IntKind.u64.wrap ((X : Int) * 2 ^ L)) (C : Int) = ((X * 2 ^ L % 2 ^ 64 + C : Nat) : Int) := by
  have hdv : 2 ^ L ∣ 2 ^ 64 := Nat.pow_dvd_pow 2 hL
  have hle : 2 ^ L ≤ 2 ^ 64 := Nat.pow_le_pow_right (by decide) hL
  have e : IntKind.u64.wrap ((X : Int) * 2 ^ L) = ((X * 2 ^ L % 2 ^ 64 : Nat) : Int) := by
    rw [IntKind.wrap_u64]
    have : ((X * 2 ^ L : Nat) : Int) = (X : Int) * 2 ^ L := by simp
    rw [← this]
    generalize X * 2 ^ L = z
    omega
  have hm : (X * 2 ^ L % 2 ^ 64) % 2 ^ L = 0 := by rw [Nat.mod_mod_of_dvd _ hdv, Nat.mul_mod_left]
  have hlt : X * 2 ^ L % 2 ^ 64 < 2 ^ 64 := Nat.mod_lt _ (by decide)
  rw [e]
  generalize X * 2 ^ L % 2 ^ 64 = z at *
  rw [bits_join .u64 64 (by decide) (fun n a c => IntWalk.u64_in n (by omega)) L (z : Int) (C : Int) (by omega) (by exact_mod_cast hm) (by exact_mod_cast hlt) (by omega) (by exact_mod_cast hC) (by exact_mod_cast Nat.lt_of_lt_of_le hC hle)]
  simp
/-- Numbers laid in a new block of their own, ahead of an append. -/
theorem Rd.lits (k : IntKind) (w : World) (xs : List Int) (t : TypeId) : Rd k (w.alloc (.cells (xs.map (Value.int k)).toArray t)) (some ⟨w.heap.size, 0, none⟩) xs := fun _ =>
  ⟨w.heap.size, 0, rfl, fun j hj => by
    have := (Blk.new w t (xs.map (Value.int k)).toArray).cell j
    rw [Nat.zero_add, this]
    simp [nth_get hj, hj]⟩

/-- A string's code, appended. -/
def Huf (base : Nat) (zs : List Int) (s : ByteArray) (e : Ending) (w' : World) : Prop :=
  ∃ A' l' c' yn p, e = .returned (.slice A' l' c') ∧ Own .u8 5 w' base A' l' c' (zs ++ nz yn) ∧ p < 8 ∧ bitsB yn = hb s s.size ++ bitsN (2 ^ p - 1) p ∧ (∀ y ∈ yn, y < 256)

set_option maxRecDepth 100000 in
set_option maxHeartbeats 1600000 in
theorem ahs_any {w : World} {base l c : Nat} {A : Option Addr} {zs : List Int} {s : ByteArray} (hT : TabL w) (hTc : TabC w) (hbl : 1 < base) (hbc : 2 < base) (hbw : base ≤ w.heap.size) (ho : Own .u8 5 w base A l c zs) (hl : l ≤ 1099511627776) (hs : s.size ≤ 2147483647) :
    Calls Tryd.prog 27 #[.slice A l c, .string s] w fun e w' => Huf base zs s e w' ∧ Below base w w' := by
  have HTb := Lib.hid hT
  have HTc := Lib.hid hTc
  have HO := Lib.hid ho
  have hb0 := Lib.hid (Below.refl base w)
  clear hT hTc ho
  go_enter Tryd.func27, Tryd.ntmps27
  go_wp2
  go_loopw [0, 5, 6, 7] (fun dv xv nv iv wr => ∃ (j n X : Nat) (A' : Option Addr) (l' c' : Nat) (yn : List Nat), dv = .slice A' l' c' ∧ xv = .int .u64 X ∧ nv = .int .u64 n ∧ iv = .int .i64 j ∧ j ≤ s.size ∧ n ≤ 31 ∧ X < 18446744073709551616 ∧ l' ≤ l + 4 * j ∧ bitsB yn ++ bitsN X n = hb s j ∧ (∀ y ∈ yn, y < 256) ∧ Own .u8 5 wr base A' l' c' (zs ++ nz yn) ∧ Below base w wr) (fun _ _ _ iv _ => s.size + 1 - (intOf iv).toNat)
  case atStart => exact ⟨0, 0, 0, A, l, c, [], rfl, rfl, rfl, rfl, by omega, by omega, by omega, by omega, rfl, (fun _ h => by cases h), by simpa [nz] using HO.out, hb0.out⟩
  case round =>
    obtain ⟨j, n, X, A', l', c', yn, rfl, rfl, rfl, rfl, hj, hn, hX, hl', hbits, hyn, ho, hbr⟩ := hrel
    have HB := Lib.hid hbr
    have HO' := Lib.hid ho
    have HBt := Lib.hid hbits
    have HY := Lib.hid hyn
    by_cases hlt : j < s.size
    · have hbx := byt_at hlt
      have hx := byt_lt s j
      have hsucc := Lib.hid (hb_succ s j)
      have c1 := HTb.out.below hbr hbl (byt s j) (by omega)
      have c2 := HTc.out.below hbr hbc (byt s j) (by omega)
      obtain ⟨hL1, hL30⟩ := code.pos (byt s j) (by omega)
      have hClt := code.lt (byt s j) (by omega)
      clear hbr ho hbits hyn
      generalize byt s j = x at *
      generalize hL x = L at *
      generalize hC x = C at *
      have hpow : (2 : Nat) ^ L ≤ 1073741824 := by
        have : (2 : Nat) ^ L ≤ 2 ^ 30 := Nat.pow_le_pow_right (by decide) hL30
        omega
      obtain ⟨X2, hX2⟩ : ∃ X2 : Nat, X2 = X * 2 ^ L % 2 ^ 64 + C := ⟨_, rfl⟩
      have hpb := push_bits (X := X) (n := n) hClt hL30 hn
      rw [← hX2] at hpb
      have HPB := Lib.hid hpb
      have HX2 := Lib.hid hX2
      have hC30 : C < 1073741824 := by omega
      have hor := or_shift (X := X) (by omega) hClt
      rw [← hX2] at hor
      have hwC : IntKind.u64.wrap (C : Int) = C := IntWalk.u64_in _ (by omega)
      have hX2lt : X2 < 18446744073709551616 := by
        have h64 : 2 ^ L ∣ 2 ^ 64 := Nat.pow_dvd_pow 2 (by omega)
        have e : X * 2 ^ L % 2 ^ 64 = X % 2 ^ (64 - L) * 2 ^ L := by
          rw [show (2 : Nat) ^ 64 = 2 ^ (64 - L) * 2 ^ L by rw [← Nat.pow_add]; congr 1; omega, Nat.mul_mod_mul_right]
        have h1 : X % 2 ^ (64 - L) + 1 ≤ 2 ^ (64 - L) := Nat.mod_lt _ (Nat.two_pow_pos _)
        have h2 : (X % 2 ^ (64 - L) + 1) * 2 ^ L ≤ 2 ^ (64 - L) * 2 ^ L := Nat.mul_le_mul_right _ h1
        rw [← Nat.pow_add, show 64 - L + L = 64 by omega, Nat.add_mul] at h2
        rw [hX2, e]
        omega
      have hm64 : (L : Int) % 64 = L := by omega
      have hm64n : L % 64 = L := by omega
      clear hpb hX2 hClt
      by_cases h32 : n + L < 32
      · go_wp2
        go_roundw
        case rel => exact ⟨j + 1, n + L, X2, A', l', c', yn, rfl, rfl, by go_num, by go_num, by omega, by omega, hX2lt, by omega, by rw [HPB.out, hsucc.out, ← HBt.out, List.append_assoc], HY.out, HO'.out, HB.out⟩
        case measure => simp [intOf]; omega
      · obtain ⟨n2, hn2⟩ : ∃ n2, n2 = n + L - 32 := ⟨_, rfl⟩
        have hm32 : ((n : Int) + (L : Int)) % 32 = n2 := by omega
        have hm32n : (n + L) % 32 = n2 := by omega
        obtain ⟨Y, hY⟩ : ∃ Y, Y = X2 / 2 ^ n2 := ⟨_, rfl⟩
        have hYi : (X2 : Int) / 2 ^ n2 = Y := by rw [hY]; simp
        have hsp := bitsN_add X2 32 n2
        rw [← hY, four_bytes, show 32 + n2 = n + L by omega] at hsp
        have HSP := Lib.hid hsp
        have hn2a : n2 ≤ 29 := by omega
        have HN2 := Lib.hid hn2
        have hz := HB.out.size
        clear hY hsp hn2
        go_wp2_with (at_builtin; refine wpList_app _ rfl _ _ elem8 rfl base A' l' c' (zs ++ nz yn) rfl (HO'.out.alloc _) _ 4 4 [(Y : Int) % 4294967296 / 16777216, (Y : Int) % 4294967296 / 65536 % 256, (Y : Int) % 4294967296 / 256 % 256, (Y : Int) % 256] rfl rfl (Rd.lits .u8 wr _ 5) (by omega) (by omega) (by simp; omega) ?_; intro B1 m1 d1 w1 hm1 hown1 hg1 hat1; have HB1 := Lib.hid (below_app (HB.out.alloc (by omega) _) (HO'.out.alloc _) hg1 (by simp; omega) (Nat.le_refl _)); have HO1 := Lib.hid hown1; clear hown1 hg1 hat1)
        go_roundw
        case rel =>
          refine ⟨j + 1, n2, X2, B1, m1, d1, yn ++ [Y / 16777216 % 256, Y / 65536 % 256, Y / 256 % 256, Y % 256], rfl, rfl, rfl, by go_num, by omega, by omega, hX2lt, by have := hm1.out; omega, ?_, ?_, ?_, HB1.out⟩
          · rw [bitsB_append, List.append_assoc, ← HSP.out, HPB.out, hsucc.out, ← HBt.out, List.append_assoc]
          · intro y hy
            rcases List.mem_append.1 hy with hy | hy
            · exact HY.out y hy
            · simp at hy; omega
          · have e : nz (yn ++ [Y / 16777216 % 256, Y / 65536 % 256, Y / 256 % 256, Y % 256]) = nz yn ++ [(Y : Int) % 4294967296 / 16777216, (Y : Int) % 4294967296 / 65536 % 256, (Y : Int) % 4294967296 / 256 % 256, (Y : Int) % 256] := by
              rw [nz_append]
              congr 1
              unfold nz
              simp only [List.map_cons, List.map_nil]
              congr 1
              · omega
              congr 1
              · omega
              congr 1
              omega
            rw [e, ← List.append_assoc]
            exact HO1.out
        case measure => simp [intOf]; omega
    · have hjs : j = s.size := by omega
      have hz := HB.out.size
      have hl9 : l' ≤ 1108101562364 := by omega
      clear hbr ho hbits hyn
      by_cases h8 : n % 8 = 0
      · have HBits := Lib.hid (show bitsB yn ++ (bitsN X n ++ bitsN (2 ^ 0 - 1) 0) = hb s s.size ++ bitsN (2 ^ 0 - 1) 0 by rw [← List.append_assoc, HBt.out, hjs])
        rcases (show n = 0 ∨ n = 8 ∨ n = 16 ∨ n = 24 by omega) with rfl | rfl | rfl | rfl
        · go_wp2
          go_ret
          exact ⟨⟨A', l', c', yn, 0, rfl, HO'.out, by omega, by rw [← HBits.out]; simp [bitsN], HY.out⟩, HB.out⟩
        · have HZ := Lib.hid (show bitsN X 8 ++ bitsN (2 ^ 0 - 1) 0 = bitsB [X % 256] from bytes1 X ▸ List.append_nil _)
          go_wp2_with (at_builtin; refine wpList_app _ rfl _ _ elem8 rfl base A' l' c' (zs ++ nz yn) rfl (HO'.out.alloc _) _ 1 1 [(X : Int) % 256] rfl rfl (Rd.lits .u8 wr _ 5) (by omega) (by omega) (by simp; omega) ?_; intro B1 m1 d1 w1 hm1 hown1 hg1 hat1; have HB1 := Lib.hid (below_app (HB.out.alloc (by omega) _) (HO'.out.alloc _) hg1 (by simp; omega) (Nat.le_refl _)); have HO1 := Lib.hid hown1; clear hown1 hg1 hat1)
          go_ret
          refine ⟨⟨B1, m1, d1, yn ++ [X % 256], 0, rfl, ?_, by omega, ?_, ?_⟩, HB1.out⟩
          · have e : nz (yn ++ [X % 256]) = nz yn ++ [(X : Int) % 256] := by
              rw [nz_append]; rfl
            rw [e, ← List.append_assoc]
            exact HO1.out
          · rw [bitsB_append, ← HBits.out]
            congr 1
            exact (HZ.out).symm
          · intro y hy
            rcases List.mem_append.1 hy with hy | hy
            · exact HY.out y hy
            · simp at hy; omega
        · have HZ := Lib.hid (show bitsN X 16 ++ bitsN (2 ^ 0 - 1) 0 = bitsB [X / 256 % 256, X % 256] from bytes2 X ▸ List.append_nil _)
          go_wp2_with (at_builtin; refine wpList_app _ rfl _ _ elem8 rfl base A' l' c' (zs ++ nz yn) rfl (HO'.out.alloc _) _ 2 2 [IntKind.u16.wrap (X : Int) / 256 % 256, IntKind.u16.wrap (X : Int) % 256] rfl rfl (Rd.lits .u8 wr _ 5) (by omega) (by omega) (by simp; omega) ?_; intro B1 m1 d1 w1 hm1 hown1 hg1 hat1; have HB1 := Lib.hid (below_app (HB.out.alloc (by omega) _) (HO'.out.alloc _) hg1 (by simp; omega) (Nat.le_refl _)); have HO1 := Lib.hid hown1; clear hown1 hg1 hat1)
          go_ret
          refine ⟨⟨B1, m1, d1, yn ++ [X / 256 % 256, X % 256], 0, rfl, ?_, by omega, ?_, ?_⟩, HB1.out⟩
          · have e : nz (yn ++ [X / 256 % 256, X % 256]) = nz yn ++ [IntKind.u16.wrap (X : Int) / 256 % 256, IntKind.u16.wrap (X : Int) % 256] := by
              rw [nz_append]; congr 1; unfold nz; simp only [List.map_cons, List.map_nil, IntKind.wrap_u16]; repeat' (first | omega | congr 1)
            rw [e, ← List.append_assoc]
            exact HO1.out
          · rw [bitsB_append, ← HBits.out]
            congr 1
            exact (HZ.out).symm
          · intro y hy
            rcases List.mem_append.1 hy with hy | hy
            · exact HY.out y hy
            · simp at hy; omega
        · have HZ := Lib.hid (show bitsN X 24 ++ bitsN (2 ^ 0 - 1) 0 = bitsB [X / 65536 % 256, X / 256 % 256, X % 256] from bytes3 X ▸ List.append_nil _)
          go_wp2_with (at_builtin; refine wpList_app _ rfl _ _ elem8 rfl base A' l' c' (zs ++ nz yn) rfl (HO'.out.alloc _) _ 3 3 [IntKind.u16.wrap ((X : Int) / 256) / 256 % 256, IntKind.u16.wrap ((X : Int) / 256) % 256, (X : Int) % 256] rfl rfl (Rd.lits .u8 wr _ 5) (by omega) (by omega) (by simp; omega) ?_; intro B1 m1 d1 w1 hm1 hown1 hg1 hat1; have HB1 := Lib.hid (below_app (HB.out.alloc (by omega) _) (HO'.out.alloc _) hg1 (by simp; omega) (Nat.le_refl _)); have HO1 := Lib.hid hown1; clear hown1 hg1 hat1)
          go_ret
          refine ⟨⟨B1, m1, d1, yn ++ [X / 65536 % 256, X / 256 % 256, X % 256], 0, rfl, ?_, by omega, ?_, ?_⟩, HB1.out⟩
          · have e : nz (yn ++ [X / 65536 % 256, X / 256 % 256, X % 256]) = nz yn ++ [IntKind.u16.wrap ((X : Int) / 256) / 256 % 256, IntKind.u16.wrap ((X : Int) / 256) % 256, (X : Int) % 256] := by
              rw [nz_append]; congr 1; unfold nz; simp only [List.map_cons, List.map_nil, IntKind.wrap_u16]; repeat' (first | omega | congr 1)
            rw [e, ← List.append_assoc]
            exact HO1.out
          · rw [bitsB_append, ← HBits.out]
            congr 1
            exact (HZ.out).symm
          · intro y hy
            rcases List.mem_append.1 hy with hy | hy
            · exact HY.out y hy
            · simp at hy; omega
      · obtain ⟨ov, hov⟩ : ∃ ov, ov = n % 8 := ⟨_, rfl⟩
        have hov1 : 1 ≤ ov := by omega
        have hov7 : ov ≤ 7 := by omega
        have hovi : (n : Int) % 8 = ov := by omega
        have hovn : n % 8 = ov := hov.symm
        have hpow : 255 / 2 ^ ov = 2 ^ (8 - ov) - 1 := by
          rcases (show ov = 1 ∨ ov = 2 ∨ ov = 3 ∨ ov = 4 ∨ ov = 5 ∨ ov = 6 ∨ ov = 7 by omega) with h | h | h | h | h | h | h <;> rw [h] <;> rfl
        have hpp := Nat.two_pow_pos (8 - ov)
        have hor := or_shift (X := X) (L := 8 - ov) (C := 255 / 2 ^ ov) (by omega) (by rw [hpow]; omega)
        have hpb := push_bits (X := X) (L := 8 - ov) (C := 255 / 2 ^ ov) (n := n) (by rw [hpow]; omega) (by omega) hn
        obtain ⟨Z, hZ⟩ : ∃ Z : Nat, Z = X * 2 ^ (8 - ov) % 2 ^ 64 + 255 / 2 ^ ov := ⟨_, rfl⟩
        rw [← hZ] at hor hpb
        rw [hpow] at hpb
        rw [show ((255 / 2 ^ ov : Nat) : Int) = 255 / 2 ^ ov by simp] at hor
        have HBits := Lib.hid (show bitsB yn ++ (bitsN X n ++ bitsN (2 ^ (8 - ov) - 1) (8 - ov)) = hb s s.size ++ bitsN (2 ^ (8 - ov) - 1) (8 - ov) by rw [← List.append_assoc, HBt.out, hjs])
        have HPB := Lib.hid hpb
        have HOV := Lib.hid hov
        clear hpow hpp hZ hpb hov h8
        rcases (show n + (8 - ov) = 8 ∨ n + (8 - ov) = 16 ∨ n + (8 - ov) = 24 ∨ n + (8 - ov) = 32 by omega) with hN | hN | hN | hN
        · have hNi : (n : Int) + (8 - (ov : Int)) = 8 := by omega
          have HZ := Lib.hid (show bitsN X n ++ bitsN (2 ^ (8 - ov) - 1) (8 - ov) = bitsB [Z % 256] by rw [← HPB.out, hN]; exact bytes1 Z)
          clear hN
          go_wp2_with (at_builtin; refine wpList_app _ rfl _ _ elem8 rfl base A' l' c' (zs ++ nz yn) rfl (HO'.out.alloc _) _ 1 1 [(Z : Int) % 256] rfl rfl (Rd.lits .u8 wr _ 5) (by omega) (by omega) (by simp; omega) ?_; intro B1 m1 d1 w1 hm1 hown1 hg1 hat1; have HB1 := Lib.hid (below_app (HB.out.alloc (by omega) _) (HO'.out.alloc _) hg1 (by simp; omega) (Nat.le_refl _)); have HO1 := Lib.hid hown1; clear hown1 hg1 hat1)
          go_ret
          refine ⟨⟨B1, m1, d1, yn ++ [Z % 256], 8 - ov, rfl, ?_, by omega, ?_, ?_⟩, HB1.out⟩
          · have e : nz (yn ++ [Z % 256]) = nz yn ++ [(Z : Int) % 256] := by
              rw [nz_append]; rfl
            rw [e, ← List.append_assoc]
            exact HO1.out
          · rw [bitsB_append, ← HBits.out]
            congr 1
            exact (HZ.out).symm
          · intro y hy
            rcases List.mem_append.1 hy with hy | hy
            · exact HY.out y hy
            · simp at hy; omega
        · have hNi : (n : Int) + (8 - (ov : Int)) = 16 := by omega
          have HZ := Lib.hid (show bitsN X n ++ bitsN (2 ^ (8 - ov) - 1) (8 - ov) = bitsB [Z / 256 % 256, Z % 256] by rw [← HPB.out, hN]; exact bytes2 Z)
          clear hN
          go_wp2_with (at_builtin; refine wpList_app _ rfl _ _ elem8 rfl base A' l' c' (zs ++ nz yn) rfl (HO'.out.alloc _) _ 2 2 [IntKind.u16.wrap (Z : Int) / 256 % 256, IntKind.u16.wrap (Z : Int) % 256] rfl rfl (Rd.lits .u8 wr _ 5) (by omega) (by omega) (by simp; omega) ?_; intro B1 m1 d1 w1 hm1 hown1 hg1 hat1; have HB1 := Lib.hid (below_app (HB.out.alloc (by omega) _) (HO'.out.alloc _) hg1 (by simp; omega) (Nat.le_refl _)); have HO1 := Lib.hid hown1; clear hown1 hg1 hat1)
          go_ret
          refine ⟨⟨B1, m1, d1, yn ++ [Z / 256 % 256, Z % 256], 8 - ov, rfl, ?_, by omega, ?_, ?_⟩, HB1.out⟩
          · have e : nz (yn ++ [Z / 256 % 256, Z % 256]) = nz yn ++ [IntKind.u16.wrap (Z : Int) / 256 % 256, IntKind.u16.wrap (Z : Int) % 256] := by
              rw [nz_append]; congr 1; unfold nz; simp only [List.map_cons, List.map_nil, IntKind.wrap_u16]; repeat' (first | omega | congr 1)
            rw [e, ← List.append_assoc]
            exact HO1.out
          · rw [bitsB_append, ← HBits.out]
            congr 1
            exact (HZ.out).symm
          · intro y hy
            rcases List.mem_append.1 hy with hy | hy
            · exact HY.out y hy
            · simp at hy; omega
        · have hNi : (n : Int) + (8 - (ov : Int)) = 24 := by omega
          have HZ := Lib.hid (show bitsN X n ++ bitsN (2 ^ (8 - ov) - 1) (8 - ov) = bitsB [Z / 65536 % 256, Z / 256 % 256, Z % 256] by rw [← HPB.out, hN]; exact bytes3 Z)
          clear hN
          go_wp2_with (at_builtin; refine wpList_app _ rfl _ _ elem8 rfl base A' l' c' (zs ++ nz yn) rfl (HO'.out.alloc _) _ 3 3 [IntKind.u16.wrap ((Z : Int) / 256) / 256 % 256, IntKind.u16.wrap ((Z : Int) / 256) % 256, (Z : Int) % 256] rfl rfl (Rd.lits .u8 wr _ 5) (by omega) (by omega) (by simp; omega) ?_; intro B1 m1 d1 w1 hm1 hown1 hg1 hat1; have HB1 := Lib.hid (below_app (HB.out.alloc (by omega) _) (HO'.out.alloc _) hg1 (by simp; omega) (Nat.le_refl _)); have HO1 := Lib.hid hown1; clear hown1 hg1 hat1)
          go_ret
          refine ⟨⟨B1, m1, d1, yn ++ [Z / 65536 % 256, Z / 256 % 256, Z % 256], 8 - ov, rfl, ?_, by omega, ?_, ?_⟩, HB1.out⟩
          · have e : nz (yn ++ [Z / 65536 % 256, Z / 256 % 256, Z % 256]) = nz yn ++ [IntKind.u16.wrap ((Z : Int) / 256) / 256 % 256, IntKind.u16.wrap ((Z : Int) / 256) % 256, (Z : Int) % 256] := by
              rw [nz_append]; congr 1; unfold nz; simp only [List.map_cons, List.map_nil, IntKind.wrap_u16]; repeat' (first | omega | congr 1)
            rw [e, ← List.append_assoc]
            exact HO1.out
          · rw [bitsB_append, ← HBits.out]
            congr 1
            exact (HZ.out).symm
          · intro y hy
            rcases List.mem_append.1 hy with hy | hy
            · exact HY.out y hy
            · simp at hy; omega
        · have hNi : (n : Int) + (8 - (ov : Int)) = 32 := by omega
          have HZ := Lib.hid (show bitsN X n ++ bitsN (2 ^ (8 - ov) - 1) (8 - ov) = bitsB [Z / 16777216 % 256, Z / 65536 % 256, Z / 256 % 256, Z % 256] by rw [← HPB.out, hN]; exact bytes4 Z)
          clear hN
          go_wp2_with (at_builtin; refine wpList_app _ rfl _ _ elem8 rfl base A' l' c' (zs ++ nz yn) rfl (HO'.out.alloc _) _ 4 4 [(Z : Int) % 4294967296 / 16777216, (Z : Int) % 4294967296 / 65536 % 256, (Z : Int) % 4294967296 / 256 % 256, (Z : Int) % 256] rfl rfl (Rd.lits .u8 wr _ 5) (by omega) (by omega) (by simp; omega) ?_; intro B1 m1 d1 w1 hm1 hown1 hg1 hat1; have HB1 := Lib.hid (below_app (HB.out.alloc (by omega) _) (HO'.out.alloc _) hg1 (by simp; omega) (Nat.le_refl _)); have HO1 := Lib.hid hown1; clear hown1 hg1 hat1)
          go_ret
          refine ⟨⟨B1, m1, d1, yn ++ [Z / 16777216 % 256, Z / 65536 % 256, Z / 256 % 256, Z % 256], 8 - ov, rfl, ?_, by omega, ?_, ?_⟩, HB1.out⟩
          · have e : nz (yn ++ [Z / 16777216 % 256, Z / 65536 % 256, Z / 256 % 256, Z % 256]) = nz yn ++ [(Z : Int) % 4294967296 / 16777216, (Z : Int) % 4294967296 / 65536 % 256, (Z : Int) % 4294967296 / 256 % 256, (Z : Int) % 256] := by
              rw [nz_append]; congr 1; unfold nz; simp only [List.map_cons, List.map_nil]; repeat' (first | omega | congr 1)
            rw [e, ← List.append_assoc]
            exact HO1.out
          · rw [bitsB_append, ← HBits.out]
            congr 1
            exact (HZ.out).symm
          · intro y hy
            rcases List.mem_append.1 hy with hy | hy
            · exact HY.out y hy
            · simp at hy; omega
end Go.Proofs.YthnaobmepfkkpaaDoor
