/- Walk of huffmanDecode. -/
import Derived.Test.YthnaobmepfkkpaaDoorDec6
namespace Go.Proofs.YthnaobmepfkkpaaDoor
open Go Go.RowKit

/-- How huffmanDecode ends. -/
def DecPost (w : World) (B b : Nat) (ev : Value) (ys : List Nat) (e : Ending) (w' : World) : Prop :=
  ((∃ acc, e = .returned .nilIface ∧ Unh ys (strOfNums (nz acc)) true ∧ (∀ x ∈ acc, x < 256) ∧ Buf w' B b acc) ∨ (e = .returned ev ∧ ∃ s, Unh ys s false)) ∧ Below B w w'

/-- The world while it decodes. -/
structure DW (w wr : World) (B b Bt LV : Nat) (N A1 : Nat → Nat) (acc : List Nat) : Prop where
  buf : Buf wr B b acc
  tree : Tree wr Bt LV (HasN 256) (LeafN 256) N A1
  leaves : Leaves wr LV 256
  below : Below B w wr
/-- What the bits that are taken in amount to: 64 of them. -/
def Fits64 (cur : Nat) : Prop := cur < 2 ^ 64
theorem take_in {cur y cb cur' : Nat} (hy : y < 256) (hcb : cb ≤ 7) (hc : cur' = cur * 2 ^ 8 % 2 ^ 64 + y) : cur' % 2 ^ (cb + 8) = (cur * 256 + y) % 2 ^ (cb + 8) ∧ Fits64 cur' := by
  subst hc
  refine ⟨?_, ?_⟩
  · have hd : 2 ^ (cb + 8) ∣ 2 ^ 64 := Nat.pow_dvd_pow 2 (by omega)
    rw [Nat.add_mod, Nat.mod_mod_of_dvd _ hd, ← Nat.add_mod]
  · unfold Fits64 at *
    have : cur * 2 ^ 8 % 2 ^ 64 = cur % 2 ^ 56 * 2 ^ 8 := by
      rw [show (2 : Nat) ^ 64 = 2 ^ 56 * 2 ^ 8 by rw [← Nat.pow_add], Nat.mul_mod_mul_right]
    rw [this]
    have := Nat.mod_lt cur (Nat.two_pow_pos 56)
    omega
theorem wrap_256 (z : Int) : IntKind.u64.wrap z % 256 = z % 256 := by
  have : IntKind.u64.wrap z = z % 18446744073709551616 := by simp [IntKind.wrap, IntKind.bits, IntKind.signed]
  rw [this]; omega
theorem mask_eq {cur cb : Nat} (h : Fits64 cur) (hc : cb ≤ 7) : bits .and .u64 (cur : Int) (most cb) = ((cur % 2 ^ cb : Nat) : Int) ∧ most cb = ((2 ^ cb - 1 : Nat) : Int) := by
  have hp := Nat.two_pow_pos cb
  have e1 : most cb = ((2 ^ cb - 1 : Nat) : Int) := by
    have e : ((2 ^ cb : Nat) : Int) = (2 : Int) ^ cb := by simp
    unfold most; rw [← e]; omega
  refine ⟨?_, e1⟩
  unfold Fits64 at h
  have := bits_mask .u64 64 (by decide) (fun n a c => IntWalk.u64_in n (by omega)) cb (by omega) (cur : Int) (by omega) (by omega)
  unfold most
  rw [this]
  simp
theorem mask_yes {cur cb : Nat} (h : Fits64 cur) (hc : cb ≤ 7) (hq : cur % 2 ^ cb = 2 ^ cb - 1) : (bits .and .u64 (cur : Int) (IntKind.u64.wrap (IntKind.u64.wrap (2 ^ cb) - 1)) != IntKind.u64.wrap (IntKind.u64.wrap (2 ^ cb) - 1)) = false := by
  obtain ⟨e1, e2⟩ := mask_eq h hc
  rw [most_u64 (by omega), e1, e2, hq]
  simp
theorem mask_no {cur cb : Nat} (h : Fits64 cur) (hc : cb ≤ 7) (hq : ¬ cur % 2 ^ cb = 2 ^ cb - 1) : (bits .and .u64 (cur : Int) (IntKind.u64.wrap (IntKind.u64.wrap (2 ^ cb) - 1)) != IntKind.u64.wrap (IntKind.u64.wrap (2 ^ cb) - 1)) = true := by
  obtain ⟨e1, e2⟩ := mask_eq h hc
  rw [most_u64 (by omega), e1, e2]
  simp only [bne_iff_ne, ne_eq]
  intro h'
  exact hq (by exact_mod_cast h')
/-- An error within the bits: the reference says no. -/
theorem Dst.dead_unh {ys acc : List Nat} {n sb cb cur κ : Nat} (h : Dst ((bitsB ys).take n) acc sb cb cur κ) (h8 : 8 ≤ cb) (hn : ¬ HasN 256 (κ * 256 + cur / 2 ^ (cb - 8) % 256)) (hl : ∀ t, ¬ LeafN 256 (κ * 256 + cur / 2 ^ (cb - 8) % 256) t) : ∃ s, Unh ys s false := by
  refine unh_no fun st hs hx => ?_
  have := h.dead h8 hn hl (more := (bitsB ys).drop n) (st := st) (by rw [List.take_append_drop]; exact bitsB_le ys) (by rw [List.take_append_drop]; exact hs)
  omega
set_option maxRecDepth 100000 in
set_option maxHeartbeats 3200000 in
theorem dec_any {w : World} {A : Option Addr} {m c B b : Nat} {ys : List Nat} {ev : Value} (hT : TabL w) (hC' : RowC w) (hbuf : Buf w B b []) (hev : w.cell? ⟨5, 0, none⟩ = some ev) (hee : ∃ te pe, ev = .iface te pe) (hgB : 5 < B)
    (hr : Rd .u8 w A (nz ys)) (hm : ys.length = m) (hy : ∀ y ∈ ys, y < 256) (hA : ∀ ad, A = some ad → ad.block < B) (h40 : m ≤ 1099511627776) :
    Calls Tryd.prog 37 #[.pointer (some ⟨b, 0, none⟩), .int .i64 0, .slice A m c] w (DecPost w B b ev ys) := by
  obtain ⟨te, pe, rfl⟩ := hee
  have HTL := Lib.hid hT
  have HRC := Lib.hid hC'
  have HBf := Lib.hid hbuf
  have HE := Lib.hid hev
  have HR := Lib.hid hr
  have HM := Lib.hid hm
  have HY := Lib.hid hy
  have HA := Lib.hid hA
  have hBb := hbuf.ge
  have hbw := hbuf.lt
  clear hT hC' hbuf hev hr hm hy hA
  go_enter Tryd.func37, Tryd.ntmps37
  go_wp2_with fail
  refine (root_any HTL.out HRC.out).mono ?_
  rintro e w1 ⟨N, A1, LV, rfl, ht1, hl1, hb1⟩
  have HT1 := Lib.hid ht1
  have HL1 := Lib.hid hl1
  have HB1 := Lib.hid (hb1.mono (B' := B) (by omega))
  have HBf1 := Lib.hid (HBf.out.below hb1)
  have hz1 := hb1.size
  clear ht1 hl1 hb1 HTL HRC HBf
  have HDW := Lib.hid (⟨HBf1.out, HT1.out, HL1.out, HB1.out⟩ : DW w w1 B b w.heap.size LV N A1 [])
  clear HBf1 HT1 HL1 HB1 hz1
  go_wp2
  go_loopw [8, 9, 10, 11, 20] (fun nv cv bv sv iv wr => ∃ (i sb cb cur κ g : Nat) (acc : List Nat), i ≤ m ∧ cb ≤ 7 ∧ Dst ((bitsB ys).take (8 * i)) acc sb cb cur κ ∧ g = N κ ∧ nv = .pointer (some ⟨g, 0, none⟩) ∧ cv = .int .u64 cur ∧ Fits64 cur ∧ bv = .int .u8 cb ∧ sv = .int .u8 sb ∧ iv = .int .i64 i ∧ DW w wr B b w.heap.size LV N A1 acc) (fun _ _ _ _ iv _ => m + 1 - (intOf iv).toNat)
  case atStart => exact ⟨0, 0, 0, 0, 1, N 1, [], by omega, by omega, Dst.start 0, rfl, rfl, rfl, (by unfold Fits64; decide), rfl, rfl, rfl, HDW.out⟩
  case round =>
    obtain ⟨i, sb, cb, cur, κ, g, acc, hi, hcb, hd, hg, rfl, rfl, hf, rfl, rfl, rfl, hw⟩ := hrel
    have HD := Lib.hid hd
    have HG := Lib.hid hg
    have HF := Lib.hid hf
    have HW := Lib.hid hw
    obtain ⟨d, hd3, hsb, _⟩ := hd.sz
    have hsb31 : sb ≤ 31 := by omega
    clear hd hg hf hw hsb HDW
    by_cases hlt : i < m
    · have him : i < ys.length := by rw [HM.out]; exact hlt
      obtain ⟨bb, off, rfl, hc⟩ := HR.out (by intro e; have := congrArg List.length e; rw [nz_length] at this; simp only [List.length_nil] at this; omega)
      have hbB : bb < B := HA.out _ rfl
      have c1 := (HW.out.below.cell (p := ⟨bb, off + i, none⟩) hbB).trans (hc i (by rw [nz_length]; exact him))
      obtain ⟨y, hyd⟩ : ∃ y, y = ys.getD i 0 := ⟨_, rfl⟩
      have hyn : nth (nz ys) i = (y : Int) := by rw [hyd]; unfold nth nz; simp [List.getD_eq_getElem?_getD, List.getElem?_map, List.getElem?_eq_getElem him]
      rw [hyn] at c1
      have hy8 : y < 256 := HY.out y (by rw [hyd, List.getD_eq_getElem?_getD, List.getElem?_eq_getElem him]; exact List.getElem_mem ..)
      have HYd := Lib.hid hyd
      obtain ⟨cur2, hcur2⟩ : ∃ cur2, cur2 = cur * 2 ^ 8 % 2 ^ 64 + y := ⟨_, rfl⟩
      obtain ⟨hcm, hf2⟩ := take_in hy8 hcb hcur2
      have HOR := Lib.hid (show bits .or .u64 (IntKind.u64.wrap ((cur : Int) * 256)) (y : Int) = (cur2 : Int) by
        have := or_shift (X := cur) (L := 8) (C := y) (by decide) hy8
        rw [show (2 : Int) ^ 8 = 256 by decide] at this
        rw [this, hcur2])
      have HF2 := Lib.hid hf2
      have HD2 := Lib.hid (show Dst ((bitsB ys).take (8 * (i + 1))) acc (sb + 8) (cb + 8) cur2 κ by
        rw [bitsB_take him, ← HYd.out]
        exact HD.out.byte hy8 hcm)
      clear hc hyn hyd hcur2 hcm hf2 HD
      go_wp2
      rw [HOR.out]
      obtain ⟨wo, hwo⟩ : ∃ wo : World, wo = wr := ⟨_, rfl⟩
      go_loopw [8, 10, 11] (fun nv bv sv wr2 => ∃ (sb cb κ g : Nat) (acc : List Nat), cb ≤ 15 ∧ Dst ((bitsB ys).take (8 * (i + 1))) acc sb cb cur2 κ ∧ g = N κ ∧ nv = .pointer (some ⟨g, 0, none⟩) ∧ bv = .int .u8 cb ∧ sv = .int .u8 sb ∧ DW w wr2 B b w.heap.size LV N A1 acc) (fun _ bv _ _ => (intOf bv).toNat)
      case atStart => exact ⟨sb + 8, cb + 8, κ, g, acc, by omega, HD2.out, HG.out, rfl, rfl, rfl, HW.out⟩
      case round =>
        clear HW HG HD2 hsb31 hcb c1
        obtain ⟨sb, cb, κ, g, acc, hcb, hd, hg, rfl, rfl, rfl, hw⟩ := hrel
        have HD := Lib.hid hd
        have HG := Lib.hid hg
        have HW := Lib.hid hw
        obtain ⟨d, hd3, hsb, _⟩ := hd.sz
        have hsb39 : sb ≤ 39 := by omega
        clear hd hg hw hsb hd3
        by_cases h8 : 8 ≤ cb
        · obtain ⟨idx, hidx⟩ : ∃ idx, idx = cur2 / 2 ^ (cb - 8) % 256 := ⟨_, rfl⟩
          have hix : (cur2 : Int) / 2 ^ (cb - 8) % 256 = (idx : Int) := by rw [hidx]; simp
          have hi256 : idx < 256 := by rw [hidx]; exact Nat.mod_lt _ (by decide)
          have Hidx := Lib.hid hidx
          have hptr := HW.out.tree.ptr HD.out.has
          rw [← HG.out] at hptr
          obtain ⟨a, ha⟩ : ∃ a, a = A1 κ := ⟨_, rfl⟩
          rw [← ha] at hptr
          have Ha := Lib.hid ha
          have kE := (HW.out.below.cell (p := ⟨5, 0, none⟩) hgB).trans HE.out
          clear hidx ha
          by_cases hN : HasN 256 (κ * 256 + idx)
          · have kc : wr.cell? ⟨a, idx, none⟩ = some (.pointer (some ⟨N (κ * 256 + idx), 0, none⟩)) := by
              rw [Ha.out]; exact HW.out.tree.kidN κ idx HD.out.has hi256 hN
            have kp := HW.out.tree.ptr hN
            have HDn := Lib.hid (show Dst ((bitsB ys).take (8 * (i + 1))) acc sb (cb - 8) cur2 (κ * 256 + idx) by
              have := HD.out.node h8 (by rw [← Hidx.out]; exact hN)
              rwa [← Hidx.out] at this)
            have HNn := Lib.hid hN
            clear hN
            generalize hgn : N (κ * 256 + idx) = gn at *
            have Hgn := Lib.hid hgn
            clear hgn
            go_wp2
            go_roundw
            case rel => exact ⟨sb, cb - 8, κ * 256 + idx, gn, acc, by omega, HDn.out, Hgn.out.symm, rfl, by congr 1; omega, rfl, HW.out⟩
            case measure => simp [intOf]; omega
          · by_cases hL : ∃ t, LeafN 256 (κ * 256 + idx) t
            · obtain ⟨t, hL⟩ := hL
              have ht := hL.1
              have kc : wr.cell? ⟨a, idx, none⟩ = some (.pointer (some ⟨LV, t * 3, none⟩)) := by
                rw [Ha.out]; exact HW.out.tree.kidL κ idx t HD.out.has hi256 hL
              obtain ⟨q0, q1, q2⟩ := HW.out.leaves.at_ ht
              obtain ⟨l1, l2, l3, l4⟩ := lr (t := t) (by omega)
              have HDl := Lib.hid (HD.out.leaf h8 (by rw [← Hidx.out]; exact hL))
              have hacc := Lib.hid (show acc.length ≤ 35184372088832 by
                have := (HD.out.kept (fun b hb => bitsB_le ys b (List.mem_of_mem_take hb))).1
                rw [List.length_take, bitsB_length, HM.out] at this
                omega)
              clear hN l1 l4
              go_wp2_with fail
              refine (buf_byte (x := t) HW.out.buf (by have := HW.out.below.size; have := HW.out.buf.lt; omega) hacc.out).mono ?_
              rintro e w2 ⟨rfl, hbf, hbb, hok⟩
              obtain ⟨cb2, hcb2⟩ := HW.out.buf.blk
              have HW2 := Lib.hid (⟨hbf, HW.out.tree.others hcb2 hok, HW.out.leaves.others hcb2 hok, HW.out.below.trans hbb⟩ : DW w w2 B b w.heap.size LV N A1 (acc ++ [t]))
              obtain ⟨p0, p1, p2⟩ := HW2.out.leaves.at_ ht
              clear hbf hbb hok hcb2 q0 q1 q2 kc hptr kE
              go_wp2
              go_roundw
              case rel => exact ⟨cb - rem8 t, cb - rem8 t, 1, N 1, acc ++ [t], by omega, HDl.out, rfl, rfl, by congr 1; omega, by congr 1; omega, HW2.out⟩
              case measure => simp [intOf]; omega
            · have kc : wr.cell? ⟨a, idx, none⟩ = some (.pointer none) := by
                rw [Ha.out]; exact HW.out.tree.kid0 κ idx HD.out.has hi256 hN (fun t h => hL ⟨t, h⟩)
              have Hno := Lib.hid (show ∃ s, Unh ys s false from HD.out.dead_unh h8 (by rw [← Hidx.out]; exact hN) (fun t h => hL ⟨t, by rw [Hidx.out]; exact h⟩))
              clear hN hL
              go_wp2
              go_ret
              exact ⟨.inr ⟨rfl, Hno.out⟩, HW.out.below⟩
        · go_wp2
          go_roundw
          case rel => exact ⟨i + 1, sb, cb, cur2, κ, g, acc, by omega, by omega, HD.out, HG.out, rfl, rfl, HF2.out, rfl, rfl, by go_num, HW.out⟩
          case measure => simp [intOf]; omega
    · have hall : (bitsB ys).take (8 * i) = bitsB ys := List.take_of_length_le (by rw [bitsB_length, HM.out]; omega)
      have HDa := Lib.hid (show Dst (bitsB ys) acc sb cb cur κ by rw [← hall]; exact HD.out)
      clear hall HD
      go_wp2
      obtain ⟨wo, hwo⟩ : ∃ wo : World, wo = wr := ⟨_, rfl⟩
      go_loopw [8, 10, 11] (fun nv bv sv wr2 => ∃ (sb cb κ g : Nat) (acc : List Nat), cb ≤ 7 ∧ Dst (bitsB ys) acc sb cb cur κ ∧ g = N κ ∧ nv = .pointer (some ⟨g, 0, none⟩) ∧ bv = .int .u8 cb ∧ sv = .int .u8 sb ∧ DW w wr2 B b w.heap.size LV N A1 acc) (fun _ bv _ _ => (intOf bv).toNat)
      case atStart => exact ⟨sb, cb, κ, g, acc, hcb, HDa.out, HG.out, rfl, rfl, rfl, HW.out⟩
      case round =>
        clear HW HG HDa hsb31 hcb
        obtain ⟨sb, cb, κ, g, acc, hcb, hd, hg, rfl, rfl, rfl, hw⟩ := hrel
        have HD := Lib.hid hd
        have HG := Lib.hid hg
        have HW := Lib.hid hw
        obtain ⟨d, hd3, hsb, _⟩ := hd.sz
        have hsb31 : sb ≤ 31 := by omega
        have kE := (HW.out.below.cell (p := ⟨5, 0, none⟩) hgB).trans HE.out
        clear hd hg hw hsb hd3
        by_cases hc0 : cb = 0
        · have HFin := Lib.hid (show Fin8 (bitsB ys) acc sb cb cur by rw [hc0]; exact Dst.fin_zero (hc0 ▸ HD.out))
          have hc00 : ¬ (0 : Int) < (cb : Int) := by omega
          clear hc0
          by_cases h7 : 7 < sb
          · have Hno := Lib.hid (HFin.out.long h7)
            clear HFin
            go_wp2
            go_ret
            exact ⟨.inr ⟨rfl, Hno.out⟩, HW.out.below⟩
          · have h7' : sb ≤ 7 := by omega
            obtain ⟨f1, f2⟩ := HFin.out.short h7'
            have Hby := Lib.hid (HD.out.kept (bitsB_le ys)).2
            clear h7 HFin
            by_cases hones : cur % 2 ^ cb = 2 ^ cb - 1
            · have Hok := Lib.hid (f1 hones)
              have hq := mask_yes HF.out hcb hones
              clear f1 f2 hones
              go_wp2
              go_ret
              exact ⟨.inl ⟨acc, rfl, Hok.out, Hby.out, HW.out.buf⟩, HW.out.below⟩
            · have Hno := Lib.hid (f2 hones)
              have hq := mask_no HF.out hcb hones
              clear f1 f2 hones
              go_wp2
              go_ret
              exact ⟨.inr ⟨rfl, Hno.out⟩, HW.out.below⟩
        · have hc1 : 0 < cb := by omega
          have hptr := HW.out.tree.ptr HD.out.has
          rw [← HG.out] at hptr
          obtain ⟨a, ha⟩ : ∃ a, a = A1 κ := ⟨_, rfl⟩
          rw [← ha] at hptr
          have Ha := Lib.hid ha
          obtain ⟨idx, hidx⟩ : ∃ idx, idx = cur * 2 ^ (8 - cb) % 256 := ⟨_, rfl⟩
          have hix : IntKind.u64.wrap ((cur : Int) * 2 ^ (8 - cb)) % 256 = (idx : Int) := by
            rw [hidx, wrap_256]; simp
          have hi256 : idx < 256 := by rw [hidx]; exact Nat.mod_lt _ (by decide)
          have Hidx := Lib.hid hidx
          clear ha hc0 hidx
          by_cases hN : HasN 256 (κ * 256 + idx)
          · have kc : wr.cell? ⟨a, idx, none⟩ = some (.pointer (some ⟨N (κ * 256 + idx), 0, none⟩)) := by
              rw [Ha.out]; exact HW.out.tree.kidN κ idx HD.out.has hi256 hN
            have kp := HW.out.tree.ptr hN
            have HFin := Lib.hid (HD.out.fin_node (by omega) (by rw [← Hidx.out]; exact hN))
            clear hN
            by_cases h7 : 7 < sb
            · have Hno := Lib.hid (HFin.out.long h7)
              clear HFin
              go_wp2
              go_ret
              exact ⟨.inr ⟨rfl, Hno.out⟩, HW.out.below⟩
            · have h7' : sb ≤ 7 := by omega
              obtain ⟨f1, f2⟩ := HFin.out.short h7'
              have Hby := Lib.hid (HD.out.kept (bitsB_le ys)).2
              clear h7 HFin
              by_cases hones : cur % 2 ^ cb = 2 ^ cb - 1
              · have Hok := Lib.hid (f1 hones)
                have hq := mask_yes HF.out hcb hones
                clear f1 f2 hones
                go_wp2
                go_ret
                exact ⟨.inl ⟨acc, rfl, Hok.out, Hby.out, HW.out.buf⟩, HW.out.below⟩
              · have Hno := Lib.hid (f2 hones)
                have hq := mask_no HF.out hcb hones
                clear f1 f2 hones
                go_wp2
                go_ret
                exact ⟨.inr ⟨rfl, Hno.out⟩, HW.out.below⟩
          · by_cases hL : ∃ t, LeafN 256 (κ * 256 + idx) t
            · obtain ⟨t, hL⟩ := hL
              have ht := hL.1
              have kc : wr.cell? ⟨a, idx, none⟩ = some (.pointer (some ⟨LV, t * 3, none⟩)) := by
                rw [Ha.out]; exact HW.out.tree.kidL κ idx t HD.out.has hi256 hL
              obtain ⟨q0, q1, q2⟩ := HW.out.leaves.at_ ht
              obtain ⟨l1, l2, l3, l4⟩ := lr (t := t) (by omega)
              clear hN l1 l4
              by_cases hr : cb < rem8 t
              · have HFin := Lib.hid (HD.out.fin_leaf (by omega) (by rw [← Hidx.out]; exact hL) hr)
                clear hL
                by_cases h7 : 7 < sb
                · have Hno := Lib.hid (HFin.out.long h7)
                  clear HFin
                  go_wp2
                  go_ret
                  exact ⟨.inr ⟨rfl, Hno.out⟩, HW.out.below⟩
                · have h7' : sb ≤ 7 := by omega
                  obtain ⟨f1, f2⟩ := HFin.out.short h7'
                  have Hby := Lib.hid (HD.out.kept (bitsB_le ys)).2
                  clear h7 HFin
                  by_cases hones : cur % 2 ^ cb = 2 ^ cb - 1
                  · have Hok := Lib.hid (f1 hones)
                    have hq := mask_yes HF.out hcb hones
                    clear f1 f2 hones
                    go_wp2
                    go_ret
                    exact ⟨.inl ⟨acc, rfl, Hok.out, Hby.out, HW.out.buf⟩, HW.out.below⟩
                  · have Hno := Lib.hid (f2 hones)
                    have hq := mask_no HF.out hcb hones
                    clear f1 f2 hones
                    go_wp2
                    go_ret
                    exact ⟨.inr ⟨rfl, Hno.out⟩, HW.out.below⟩
              · have HDl := Lib.hid (HD.out.leaf2 (by omega) (by rw [← Hidx.out]; exact hL) (by omega))
                have hacc := Lib.hid (show acc.length ≤ 35184372088832 by
                  have := (HD.out.kept (bitsB_le ys)).1
                  rw [bitsB_length, HM.out] at this
                  omega)
                have hr2 : rem8 t ≤ cb := by omega
                clear hL hr
                go_wp2_with fail
                refine (buf_byte (x := t) HW.out.buf (by have := HW.out.below.size; have := HW.out.buf.lt; omega) hacc.out).mono ?_
                rintro e w2 ⟨rfl, hbf, hbb, hok⟩
                obtain ⟨cb2, hcb2⟩ := HW.out.buf.blk
                have HW2 := Lib.hid (⟨hbf, HW.out.tree.others hcb2 hok, HW.out.leaves.others hcb2 hok, HW.out.below.trans hbb⟩ : DW w w2 B b w.heap.size LV N A1 (acc ++ [t]))
                obtain ⟨p0, p1, p2⟩ := HW2.out.leaves.at_ ht
                clear hbf hbb hok hcb2 q0 q1 q2 kc hptr kE
                go_wp2
                go_roundw
                case rel => exact ⟨cb - rem8 t, cb - rem8 t, 1, N 1, acc ++ [t], by omega, HDl.out, rfl, rfl, by congr 1; omega, by congr 1; omega, HW2.out⟩
                case measure => simp [intOf]; omega
            · have kc : wr.cell? ⟨a, idx, none⟩ = some (.pointer none) := by
                rw [Ha.out]; exact HW.out.tree.kid0 κ idx HD.out.has hi256 hN (fun t h => hL ⟨t, h⟩)
              have Hno := Lib.hid (unh_no fun st hs => HD.out.dead2 hc1 (by omega) (by rw [← Hidx.out]; exact hN) (fun t h => hL ⟨t, by rw [Hidx.out]; exact h⟩) hs)
              clear hN hL
              go_wp2
              go_ret
              exact ⟨.inr ⟨rfl, Hno.out⟩, HW.out.below⟩
end Go.Proofs.YthnaobmepfkkpaaDoor
