/- Settings: plain lists; an append at a step of a drawn region; a great frame; Known, ints. -/
import Derived.Test.YtfimelphdmmiaaaDoorFrm5
import Derived.Deep.RegionHeld3
namespace Go.Proofs.YtfimelphdmmiaaaDoor
open Go Go.RowKit

/-- Numbers one after the other, each as short as it goes. -/
def cat : List Int → List Int
  | [] => []
  | y :: ys => venc (vcls y) y ++ cat ys
theorem cat_append (xs ys : List Int) : cat (xs ++ ys) = cat xs ++ cat ys := by
  induction xs with
  | nil => rfl
  | cons x xs ih => simp [cat, ih]
theorem cat_one (x : Int) : cat [x] = venc (vcls x) x := by simp [cat]
theorem cls8 (x : Int) : 2 ^ vcls x ≤ 8 := pow8 (vcls_le x)
theorem venc_len1 (x : Int) : 1 ≤ (venc (vcls x) x).length ∧ (venc (vcls x) x).length ≤ 8 := by
  rw [venc_length (vcls_le x)]
  exact ⟨Nat.one_le_two_pow, cls8 x⟩
theorem cat_len (xs : List Int) : (cat xs).length ≤ 8 * xs.length := by
  induction xs with
  | nil => simp [cat]
  | cons x xs ih =>
    have := (venc_len1 x).2
    simp only [cat, List.length_append, List.length_cons]
    omega
theorem vk0 (x : Int) : vk x 0 = vcls x := by unfold vk; omega
/-- Each is a number that a varint holds. -/
def Nums (ys : List Int) : Prop := ∀ y ∈ ys, 0 ≤ y ∧ y ≤ 4611686018427387903
theorem Nums.nth {ys : List Int} (h : Nums ys) {j : Nat} (hj : j < ys.length) : 0 ≤ nth ys j ∧ nth ys j ≤ 4611686018427387903 := by
  rw [nth_get hj]; exact h _ (List.getElem_mem ..)
theorem Nums.append {xs ys : List Int} (h : Nums xs) (k : Nums ys) : Nums (xs ++ ys) := fun y hy => by
  rcases List.mem_append.1 hy with hy | hy
  · exact h y hy
  · exact k y hy
theorem cat_byt {xs : List Int} (h : Nums xs) : Byt (cat xs) := by
  induction xs with
  | nil => exact Byt.nil
  | cons x xs ih =>
    obtain ⟨h0, h1⟩ := h x (by simp)
    obtain ⟨y, s, e', _, _, _, b2⟩ := venc_read (vcls_le x) h0 (by have := vk_top (n := x) 0 (by omega) h1; rwa [vk0] at this) []
    simp only [cat]
    rw [e']
    exact b2.append (ih fun y hy => h y (by simp [hy]))
theorem top_cls {x : Int} (h1 : x ≤ 4611686018427387903) : x < vtop (vcls x) := by have := vk_top (n := x) 0 (by omega) h1; rwa [vk0] at this
/-- The types are no reserved ones. -/
def Fine (ys : List Int) : Prop := ∀ j, 2 * j < ys.length → ¬ (2 ≤ nth ys (2 * j) ∧ nth ys (2 * j) ≤ 5)
theorem nth_app1 {xs ys : List Int} {j : Nat} (h : j < xs.length) : nth (xs ++ ys) j = nth xs j := by
  rw [nth_get h, nth_get (by simp; omega), List.getElem_append_left h]
theorem nth_app2 {xs ys : List Int} {j : Nat} (h : j < ys.length) : nth (xs ++ ys) (xs.length + j) = nth ys j := by
  rw [nth_get h, nth_get (by simp; omega), List.getElem_append_right (by omega)]
  simp
theorem Fine.two {ys : List Int} {x y : Int} {h : Nat} (hf : Fine ys) (he : ys.length = 2 * h) (hx : ¬ (2 ≤ x ∧ x ≤ 5)) : Fine (ys ++ [x, y]) := fun j hj => by
  by_cases hlt : 2 * j < ys.length
  · rw [nth_app1 hlt]; exact hf j hlt
  · simp at hj
    have e : 2 * j = ys.length + 0 := by omega
    rw [e, nth_app2 (by simp)]
    exact hx

theorem and62i (n : Int) : ∃ m, bits .and .i64 n 4611686018427387903 = m ∧ 0 ≤ m ∧ m ≤ 4611686018427387903 := by
  refine ⟨_, rfl, ?_⟩
  have e : bits .and .i64 n 4611686018427387903 = IntKind.i64.wrap (((BitVec.ofInt 64 n).toNat % 2 ^ 62 : Nat) : Int) := by
    simp only [bits, BitVec.toNat_and]
    rw [show (BitVec.ofInt IntKind.i64.bits 4611686018427387903).toNat = 2 ^ 62 - 1 by decide, Nat.and_two_pow_sub_one_eq_mod]
    rfl
  rw [e]
  have := Nat.mod_lt ((BitVec.ofInt 64 n).toNat) (show 0 < 2 ^ 62 by decide)
  generalize (BitVec.ofInt 64 n).toNat % 2 ^ 62 = t at *
  rw [IntKind.wrap_i64]
  omega

/-- Two numbers laid in a new block of their own, ahead of an append. -/
theorem Rd.two (k : IntKind) (w : World) (x y : Int) (t : TypeId) : Rd k (w.alloc (.cells #[.int k x, .int k y] t)) (some ⟨w.heap.size, 0, none⟩) [x, y] := fun _ =>
  ⟨w.heap.size, 0, rfl, fun j hj => by
    have h2 : j < 2 := by simpa using hj
    have := (Blk.new w t #[.int k x, .int k y]).cell j
    rw [Nat.zero_add, this]
    rcases (show j = 0 ∨ j = 1 by omega) with rfl | rfl <;> rfl⟩

/-- An append at a step of a region that draws its order. -/
theorem step_app {P : Program} (w : World) {ops : Array Oper} {o : Oper} {a : Act} {K : Act → World → Prop} {Q : Exit → Act → World → Prop} {E : Prop} (hgd : o.guard = none) (s x : Operand)
    {k : IntKind} {t e : TypeId} {bytes : Nat} (L : Elem P k t e bytes) (ho : o.op = .call { callee := .builtin .append, args := #[s, x], argTypes := #[t, t] })
    (base : Nat) (A : Option Addr) (n c : Nat) (xs : List Int) (hs : a.eval s = .slice A n c) (hown : Own k e w base A n c xs)
    (B : Option Addr) (m d : Nat) (ys : List Int) (hx : a.eval x = .slice B m d) (hm : ys.length = m) (hr : Rd k w B ys) (h63 : n + m ≤ 9223372036854775807) (hbytes : (n + m) * bytes ≤ 140737488355328) (hbase : base ≤ w.heap.size)
    (h : ∀ A' l c' w', Hid (l = n + m) → Own k e w' base A' l c' (xs ++ ys) → w.grownBy w' (Value.slice A n c).ownBlock → ((Value.slice A' l c').ownBlock = (Value.slice A n c).ownBlock ∨ (Value.slice A' l c').ownBlock = some w.heap.size) →
      K (a.put o.dst (.slice A' l c')) w') :
    if Region.wanted o (yielded ops a.tmps) = true then Oper.wp P o a w K Q else E := by
  have hw : Region.wanted o (yielded ops a.tmps) = true := by simp [Region.wanted, hgd]
  rw [if_pos hw]
  obtain ⟨A', c', w', hrun, h2, h3, h4⟩ := run_app w L o.type base A n c xs hown B m d ys hm hr h63 hbytes hbase
  unfold Oper.wp execOp
  simp only [ho, resolve, invoke, builtin, Sem.run_bind, Sem.run_pure, Result.andThen_ok, List.map_toArray, List.map_cons, List.map_nil, hs, hx, hrun]
  exact h A' (n + m) c' w' rfl h2 h3 h4

/-- Frame, of a great payload. -/
theorem frame_big {w : World} {a : Int} {A : Option Addr} {n c least : Nat} {p : List Int} (h0 : 0 ≤ a) (h1 : a ≤ 4611686018427387903) (hl : least ≤ 3) (hr : Rd .u8 w A p) (hn : p.length = n) (h31 : n ≤ 1099511627776) :
    Calls Tryd.prog 23 #[.int .u64 a, .slice A n c, .int .i64 least] w (Wrote w w.heap.size w.heap.size (frame a p least)) := by
  have HR := Lib.hid hr
  have HN := Lib.hid hn
  have hk1 := Lib.hid (pow8 (vk_le (n := a) hl))
  have hk2 := Lib.hid (pow8 (vk_le (n := (n : Int)) hl))
  clear hr hn
  go_enter Tryd.func23, Tryd.ntmps23
  go_wp2_with fail
  refine (varint_any h0 h1 hl).mono ?_
  rintro e w1 ⟨A1, l1, c1, rfl, hown1, hb1⟩
  have hl1 : l1 ≤ 8 := by
    have := hown1.len
    rw [venc_length (vk_le hl)] at this
    have := hk1.out
    omega
  have HO1 := Lib.hid hown1
  have HB1 := Lib.hid hb1
  clear hown1 hb1
  go_wp2_with fail
  refine (varint_any (n := (n : Int)) (by omega) (by omega) hl).mono ?_
  rintro e w2 ⟨A2, l2, c2, rfl, hown2, hb2⟩
  have hl2 : l2 ≤ 8 := by
    have := hown2.len
    rw [venc_length (vk_le hl)] at this
    have := hk2.out
    omega
  have HO2 := Lib.hid hown2
  have HB2 := Lib.hid (HB1.out.trans (hb2.mono HB1.out.size))
  have HO1b := Lib.hid (HO1.out.below hb2 (Nat.le_refl _))
  have hz2 := HB2.out.size
  clear hown2 hb2 HO1
  go_wp2_with (first
    | (at_builtin; refine wpList_app _ rfl (.tmp 9) _ elem8 rfl w.heap.size A1 l1 c1 _ rfl HO1b.out A2 l2 c2 _ rfl HO2.out.len HO2.out.rd (by omega) (by omega) hz2 ?_; intro A3 l3 c3 w3 hl3 hown3 hg3 hat3; have hb3 := Lib.hid (below_app HB2.out HO1b.out hg3 hz2 (Nat.le_refl _)); have hz3 := hb3.out.size; have hll3 : l3 ≤ 16 := (by have := hl3.out; omega); have ho3 := Lib.hid hown3; clear hown3 hg3 hat3)
    | (at_builtin; refine wpList_app _ rfl (.tmp 15) _ elem8 rfl w.heap.size A3 l3 c3 _ rfl ho3.out A n c p rfl HN.out (HR.out.below hb3.out (Nat.le_refl _)) (by omega) (by omega) hz3 ?_; intro A4 l4 c4 w4 hl4 hown4 hg4 hat4; have hb4 := Lib.hid (below_app hb3.out ho3.out hg4 hz3 (Nat.le_refl _)); have ho4 := Lib.hid hown4; clear hown4 hg4 hat4))
  go_ret
  refine ⟨A4, l4, c4, rfl, ?_, hb4.out⟩
  have := ho4.out
  unfold frame
  rw [HN.out]
  rw [List.append_assoc] at this
  exact this

/-- ints: two slices of the same numbers. -/
theorem ints_eq {w : World} {A B : Option Addr} {n m c d : Nat} {xs : List Int} (hA : Rd .i64 w A xs) (hn : xs.length = n) (hB : Rd .i64 w B xs) (hm : xs.length = m) (h40 : n ≤ 1099511627776) :
    Calls Tryd.prog 34 #[.slice A n c, .slice B m d] w fun e w' => e = .returned (.bool true) ∧ Below w.heap.size w w' := by
  obtain rfl : n = m := by omega
  have HA := Lib.hid hA
  have HB := Lib.hid hB
  have HN := Lib.hid hn
  have hb0 := Lib.hid (Below.refl w.heap.size w)
  clear hA hB hn hm
  go_enter Tryd.func34, Tryd.ntmps34
  go_wp2
  go_loopw [13] (fun i wr => ∃ j : Nat, j ≤ n ∧ i = .int .i64 j ∧ Below w.heap.size w wr) (fun i _ => n + 1 - (intOf i).toNat)
  case atStart => exact ⟨0, by omega, rfl, hb0.out⟩
  case round =>
    obtain ⟨j, hj, rfl, hbr⟩ := hrel
    by_cases hlt : j < n
    · have hjr : j < xs.length := by have := HN.out; omega
      obtain ⟨b, off, rfl, hcA⟩ := HA.out (by intro e; subst e; simp at hjr)
      obtain ⟨b', off', rfl, hcB⟩ := HB.out (by intro e; subst e; simp at hjr)
      have c1 : wr.cell? ⟨b, off + j, none⟩ = some (.int .i64 (nth xs j)) := (hbr.cell (cell_lt (hcA j hjr))).trans (hcA j hjr)
      have c2 : wr.cell? ⟨b', off' + j, none⟩ = some (.int .i64 (nth xs j)) := (hbr.cell (cell_lt (hcB j hjr))).trans (hcB j hjr)
      have HBr := Lib.hid hbr
      clear hcA hcB hbr
      go_wp2_with fail
      go_quiet (fail)
      go_wp2
      go_roundw
      case rel => exact ⟨j + 1, by omega, by go_num, below_drewN HBr.out _⟩
      case measure => simp [intOf]; omega
    · obtain rfl : j = n := by omega
      go_wp2
      go_ret
      exact ⟨rfl, hbr⟩
end Go.Proofs.YtfimelphdmmiaaaDoor
