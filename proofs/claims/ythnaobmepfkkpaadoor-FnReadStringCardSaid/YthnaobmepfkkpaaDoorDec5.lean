/- Walk of getRootHuffmanNode. -/
import Derived.Test.YthnaobmepfkkpaaDoorDec4
import Derived.Deep.RegionHeld3
namespace Go.Proofs.YthnaobmepfkkpaaDoor
open Go Go.RowKit

/-- The table of codes as one block. -/
def codeCells : Array Value := (tabC.map fun z => Value.int .u32 z).toArray
def RowC (w : World) : Prop := ∃ t fr, w.heap[2]? = some (.cells codeCells t fr)
theorem RowC.below {w w' : World} {B : Nat} (h : RowC w) (hb : Below B w w') (hB : 2 < B) : RowC w' := by
  obtain ⟨t, fr, h⟩ := h
  exact ⟨t, fr, (hb.block _ hB).trans h⟩
theorem rowC_of {W : World} {r : List (String × DataW Unit)} (h : laidMet Tryd.prog (("semaphorist/pub/hpack.huffmanCodes", Rows.laid_semaphorist_pub_hpack_huffmanCodes) :: r) W) : RowC W := by
  rw [laidC] at h
  have ht := Lib.tabIs_of_head nameC (t := 77) (e := 76) (n := 256) (by kernel_rfl) Tryd.underlying77 Tryd.underlying76 (by kernel_rfl) (by kernel_rfl) h
  unfold Lib.TabIs World.var? at ht
  rw [nameC] at ht
  simp only [Option.bind_some] at ht
  split at ht
  · rename_i cs t fr hh
    injection ht with ht
    subst ht
    exact ⟨t, fr, hh⟩
  · cases ht
theorem codeCells_size : codeCells.size = 256 := by unfold codeCells; simp [tab_len.2]
theorem codeCells_at {i : Nat} (h : i < 256) : codeCells[i]? = some (.int .u32 (hC i : Nat)) := by
  unfold codeCells
  have h2 := (tab_at h).2
  rw [List.getD_eq_getElem?_getD] at h2
  have h3 : i < tabC.length := by rw [tab_len.2]; exact h
  rw [List.getElem?_eq_getElem h3] at h2
  simp only [List.getElem?_toArray, List.getElem?_map, List.getElem?_eq_getElem h3, Option.map_some]
  simp only [Option.getD_some] at h2
  rw [h2]

/-- The leaves: S of them are filled. -/
structure Leaves (w : World) (LV S : Nat) : Prop where
  ex : ∃ cs : Array Value, Blk w LV 108 cs ∧ cs.size = 768 ∧ (∀ t, t < 256 → cs[t * 3]? = some (.pointer none)) ∧ (∀ t, t < S → cs[t * 3 + 1]? = some (.int .u8 (rem8 t : Nat)) ∧ cs[t * 3 + 2]? = some (.int .u8 (t : Nat)))

theorem Tree.belowT {w w' : World} {B LV : Nat} {H : Nat → Prop} {Lf : Nat → Nat → Prop} {N A : Nat → Nat} (h : Tree w B LV H Lf N A) (hb : Below w.heap.size w w') : Tree w' B LV H Lf N A :=
  h.keep (fun κ hκ => hb.block _ (h.node κ hκ).lt) (fun _ hκ => hb.block _ (h.ltA hκ))
theorem Leaves.lt {w : World} {LV S : Nat} (h : Leaves w LV S) : LV < w.heap.size := by obtain ⟨cs, hb, _⟩ := h.ex; exact hb.lt
theorem Leaves.keep {w w' : World} {LV S : Nat} (h : Leaves w LV S) (hk : w'.heap[LV]? = w.heap[LV]?) : Leaves w' LV S := by
  obtain ⟨cs, hb, r⟩ := h.ex
  exact ⟨cs, hk.trans hb, r⟩
theorem Leaves.far {w : World} {LV S : Nat} (h : Leaves w LV S) {g : Nat} {t : TypeId} {cs : Array Value} (hg : Blk w g t cs) (h1 : t ≠ 108) {p : Addr} (hp : p.block = g) (u : Value) : Leaves (w.setCell p u) LV S := by
  obtain ⟨cs', hb, r⟩ := h.ex
  exact ⟨cs', hb.far (by rw [hp]; exact Blk.same hb hg (Ne.symm h1)) u, r⟩
/-- One leaf more is filled. -/
theorem Leaves.fill {w : World} {LV s : Nat} (h : Leaves w LV s) (hs : s < 256) : Leaves ((w.setCell ⟨LV, s * 3 + 2, none⟩ (.int .u8 (s : Nat))).setCell ⟨LV, s * 3 + 1, none⟩ (.int .u8 (rem8 s : Nat))) LV (s + 1) := by
  obtain ⟨cs, hb, h1, h2, h3⟩ := h.ex
  refine ⟨_, (hb.put (s * 3 + 2) _).put (s * 3 + 1) _, by simpa using h1, fun t ht => ?_, fun t ht => ?_⟩
  · rw [Array.getElem?_setIfInBounds_ne (by omega), Array.getElem?_setIfInBounds_ne (by omega)]
    exact h2 t ht
  · by_cases e : t = s
    · subst e
      refine ⟨?_, ?_⟩
      · rw [Array.getElem?_setIfInBounds_self]; simp [h1]; omega
      · rw [Array.getElem?_setIfInBounds_ne (by omega), Array.getElem?_setIfInBounds_self]; simp [h1]; omega
    · have := h3 t (by omega)
      refine ⟨?_, ?_⟩
      · rw [Array.getElem?_setIfInBounds_ne (by omega), Array.getElem?_setIfInBounds_ne (by omega)]; exact this.1
      · rw [Array.getElem?_setIfInBounds_ne (by omega), Array.getElem?_setIfInBounds_ne (by omega)]; exact this.2
theorem lt_of_some {w : World} {g : Nat} {o : Obj} (h : w.heap[g]? = some o) : g < w.heap.size := (Array.getElem?_eq_some_iff.1 h).1
theorem zeroLeaves : Tryd.zeroCells108 = (List.replicate 256 [Value.pointer none, Value.int .u8 0, Value.int .u8 0]).flatten.toArray := by kernel_rfl
theorem flat3 (a b c : Value) : ∀ (n t : Nat), t < n → (List.replicate n [a, b, c]).flatten[3 * t]? = some a
  | n + 1, 0, _ => by simp [List.replicate_succ]
  | n + 1, t + 1, h => by
    rw [List.replicate_succ, List.flatten_cons, show 3 * (t + 1) = 3 * t + 3 by omega]
    rw [List.getElem?_append_right (by simp)]
    simpa using flat3 a b c n t (by omega)
theorem flat_len (a b c : Value) : ∀ n : Nat, (List.replicate n [a, b, c]).flatten.length = 3 * n
  | 0 => rfl
  | n + 1 => by
    rw [List.replicate_succ, List.flatten_cons, List.length_append, flat_len a b c n]
    simp only [List.length_cons, List.length_nil]
    omega
theorem Leaves.new {w : World} : Leaves (w.alloc (.cells Tryd.zeroCells108 108)) w.heap.size 0 := by
  refine ⟨_, Blk.new w _ _, ?_, fun t ht => ?_, fun t ht => by omega⟩
  · rw [zeroLeaves, List.size_toArray, flat_len]
  · rw [zeroLeaves, List.getElem?_toArray, Nat.mul_comm]; exact flat3 (.pointer none) (.int .u8 0) (.int .u8 0) 256 t ht

set_option maxRecDepth 100000 in
set_option maxHeartbeats 1600000 in
theorem root_any {w : World} (hT : TabL w) (hC' : RowC w) : Calls Tryd.prog 39 #[] w fun e w' => ∃ N A LV, e = .returned (.pointer (some ⟨N 1, 0, none⟩)) ∧ Tree w' w.heap.size LV (HasN 256) (LeafN 256) N A ∧ Leaves w' LV 256 ∧ Below w.heap.size w w' := by
  have HTL := Lib.hid hT
  have HRC := Lib.hid hC'
  have hwl := hT.lt
  clear hT hC'
  go_enter Tryd.func39, Tryd.ntmps39
  go_wp2_with fail
  refine (nin_any w).mono ?_
  rintro e w1 ⟨rfl, hn1, hk1, hb1, hz1⟩
  have HN1 := Lib.hid hn1
  have HK1 := Lib.hid hk1
  have HB1 := Lib.hid hb1
  have HZ1 := Lib.hid hz1
  have hwc : 2 < w.heap.size := by obtain ⟨t, fr, h⟩ := HRC.out; exact lt_of_some h
  obtain ⟨ct, cf, hg⟩ := HRC.out.below hb1 hwc
  obtain ⟨cs, hcs⟩ : ∃ cs, cs = codeCells := ⟨_, rfl⟩
  rw [← hcs] at hg
  have HG := Lib.hid ((Below.heap_alloc w1 (.cells Tryd.zeroCells108 108) 2 (lt_of_some hg)).trans hg)
  have HCS := Lib.hid hcs
  have HSZ : Hid ((Tryd.prog.info? 77).map (·.size) = some cs.size) := by
    show _ = _
    rw [hcs, codeCells_size]; kernel_rfl
  clear hn1 hk1 hb1 hz1 hg hcs
  go_wp2_with (refine wpList_load_row rfl 77 (.global 2) rfl 2 rfl ct cs cf _ HG.out Tryd.underlying77 rfl HSZ.out ?_)
  have HT0 := Lib.hid (((Tree.root (LV := w1.heap.size) HN1.out HK1.out (Nat.le_succ _) (Nat.le_refl _)).alloc (.cells Tryd.zeroCells108 108)).congr hasN_zero leafN_zero)
  have HL0 := Lib.hid (Leaves.new (w := w1))
  have HB2 := Lib.hid (HB1.out.alloc (by rw [HZ1.out]; omega) (.cells Tryd.zeroCells108 108))
  generalize w1.alloc (.cells Tryd.zeroCells108 108) = w2 at *
  have hLV : w.heap.size ≤ w1.heap.size := by rw [HZ1.out]; omega
  go_loopw [16] (fun iv wr => ∃ (s : Nat) (N A : Nat → Nat), s ≤ 256 ∧ iv = .int .i64 s ∧ Tree wr w.heap.size w1.heap.size (HasN s) (LeafN s) N A ∧ Leaves wr w1.heap.size s ∧ N 1 = w.heap.size + 1 ∧ Below w.heap.size w wr) (fun iv _ => 257 - (intOf iv).toNat)
  case atStart => exact ⟨0, _, _, by omega, rfl, HT0.out, HL0.out, rfl, HB2.out⟩
  case round =>
    obtain ⟨s, N, A, hs, rfl, ht, hlv, hn1, hbr⟩ := hrel
    have HTr := Lib.hid ht
    have HLf := Lib.hid hlv
    have HN := Lib.hid hn1
    have HB := Lib.hid hbr
    clear ht hlv hn1 hbr HT0 HL0 HB2
    by_cases hlt : s < 256
    · have hidx : ∀ W, (Instr.index 77 (.agg cs) (.int .i64 s)).run Tryd.prog W = .ok (.int .u32 (hC s : Nat)) W := by
        intro W
        have hc := codeCells_at hlt
        rw [← HCS.out] at hc
        have hu := Tryd.underlying77
        simp [Instr.index, run_underlying hu, Result.andThen, go_sem, hc, hlt]
      have c1 := (HTL.out.below HB.out hwl) s hlt
      obtain ⟨l1, l2, l3, l4⟩ := lr (t := s) (by omega)
      have L1 := Lib.hid l1
      have hL30 : hL s ≤ 30 := (code.pos s (by omega)).2
      have hdec : decide ((s : Int) < 256) = true := by simp; omega
      have hP0 := Lib.hid (pre_zero (s := s) (by omega))
      clear l1
      go_wp2
      obtain ⟨wo, hwo⟩ : ∃ wo : World, wo = wr := ⟨_, rfl⟩
      go_loopw [5, 6] (fun cv pv wr2 => ∃ (d m g : Nat) (N A : Nat → Nat), d ≤ lev s ∧ m + 8 * d = hL s ∧ g = N (pre s d) ∧ cv = .int .u8 m ∧ pv = .pointer (some ⟨g, 0, none⟩) ∧ Tree wr2 w.heap.size w1.heap.size (HP s d) (LeafN s) N A ∧ Leaves wr2 w1.heap.size s ∧ N 1 = w.heap.size + 1 ∧ Below w.heap.size w wr2) (fun cv _ _ => (intOf cv).toNat)
      case atStart => exact ⟨0, hL s, w.heap.size + 1, N, A, by omega, by omega, by rw [hP0.out, HN.out], rfl, rfl, HTr.out.congr (hp_zero (by omega)) (fun _ _ => Iff.rfl), HLf.out, HN.out, HB.out⟩
      case round =>
        obtain ⟨d, m, g, N2, A2, hd, hm, hg2, rfl, rfl, ht2, hlv2, hn2, hb2⟩ := hrel
        have HT2 := Lib.hid ht2
        have HLf2 := Lib.hid hlv2
        have HN2 := Lib.hid hn2
        have HB2 := Lib.hid hb2
        have HM := Lib.hid hm
        have HGg := Lib.hid hg2
        have hm30 : m ≤ 30 := by omega
        clear ht2 hlv2 hn2 hb2 hm hg2 HTr HLf HN HB c1
        by_cases hgt : 8 < m
        · have hd1 : d + 1 ≤ lev s := by have := HM.out; have := L1.out; omega
          obtain ⟨hps, hps2⟩ := pre_succ (s := s) (by omega) hd1
          obtain ⟨i, hi⟩ : ∃ i, i = hC s / 2 ^ (m - 8) % 256 := ⟨_, rfl⟩
          have hi256 : i < 256 := by rw [hi]; exact Nat.mod_lt _ (by decide)
          have hκ : HP s d (pre s d) := .inr ⟨d, Nat.le_refl _, rfl⟩
          rw [show hL s - 8 * (d + 1) = m - 8 by have := HM.out; omega, ← hi] at hps
          have hptr := HT2.out.ptr hκ
          rw [← HGg.out] at hptr
          obtain ⟨a, ha⟩ : ∃ a, a = A2 (pre s d) := ⟨_, rfl⟩
          rw [← ha] at hptr
          have Hps := Lib.hid hps
          have Ha := Lib.hid ha
          have hii : (hC s : Int) / 2 ^ (m - 8) % 256 = (i : Int) := by rw [hi]; simp
          clear hps hps2 ha hi
          by_cases hu : HP s d (pre s (d + 1))
          · have kc : wr.cell? ⟨a, i, none⟩ = some (.pointer (some ⟨N2 (pre s (d + 1)), 0, none⟩)) := by
              have := HT2.out.kidN (pre s d) i hκ hi256 (by rw [← Hps.out]; exact hu)
              rw [← Hps.out] at this
              rw [Ha.out]; exact this
            have HT3 := Lib.hid (HT2.out.congr (H' := HP s (d + 1)) (fun κ => ⟨fun h => (hp_succ s d κ).1 (.inl h), fun h => by
              rcases (hp_succ s d κ).2 h with h | h
              · exact h
              · rw [h]; exact hu⟩) (fun _ _ => Iff.rfl))
            go_wp2
            go_roundw
            case rel => exact ⟨d + 1, m - 8, _, N2, A2, hd1, by have := HM.out; omega, rfl, by congr 1; omega, rfl, HT3.out, HLf2.out, HN2.out, HB2.out⟩
            case measure => simp [intOf]; omega
          · have kc : wr.cell? ⟨a, i, none⟩ = some (.pointer none) := by
              have := HT2.out.kid0 (pre s d) i hκ hi256 (by rw [← Hps.out]; exact hu) (fun t => by rw [← Hps.out]; exact way_leaf hlt hd1)
              rw [Ha.out]; exact this
            have fz : wr.frozen? ⟨a, i, none⟩ = false := by rw [Ha.out]; exact HT2.out.frozenA hκ i
            have hga := cell_lt hptr
            have hgb := cell_lt kc
            simp only at hga hgb
            have hne : g ≠ a := by
              obtain ⟨cs2, hc2, _⟩ := HT2.out.arr (pre s d) hκ
              rw [HGg.out, Ha.out]; exact Blk.same (HT2.out.node _ hκ) hc2 (by decide)
            have hi0 : (0 : Int) ≤ (i : Int) := by omega
            have hi1 : (i : Int) < 256 := by omega
            have HU := Lib.hid hu
            clear hu
            go_wp2
            go_region_held3 (fun W => W.cell? ⟨g, 0, none⟩ = some (.pointer (some ⟨a, 0, none⟩))) (first | exact hptr | exact kp.out | exact ks.out _) (first | (go_at_call 42; refine (nin_any _).mono ?_; rintro e w4 ⟨rfl, hn4, hk4, hb4, hz4⟩; have kp := Lib.hid ((hb4.cell (p := ⟨g, 0, none⟩) hga).trans hptr); have ks : Hid (∀ v, (w4.setCell ⟨a, i, none⟩ v).cell? ⟨g, 0, none⟩ = some (.pointer (some ⟨a, 0, none⟩))) := (fun v => (World.cell?_of_block (w := w4) (a := ⟨g, 0, none⟩) (Below.heap_setCell w4 ⟨a, i, none⟩ v g hne)).trans kp.out); have Hn4 := Lib.hid hn4; have Hk4 := Lib.hid hk4; have Hb4 := Lib.hid hb4; have fz4 : w4.frozen? ⟨a, i, none⟩ = false := (hb4.frozen (p := ⟨a, i, none⟩) hgb).trans fz; have kc4 := (hb4.cell (p := ⟨a, i, none⟩) hgb).trans kc; clear hn4 hk4 hb4))
            have hb4 : Below wr.heap.size wr w4 := ⟨Hb4.out.os, Hb4.out.tape, Hb4.out.output, Hb4.out.size, Hb4.out.block⟩
            have hT4 := HT2.out.belowT hb4
            have hTn := hT4.nodeStore (i := i) (n1 := wr.heap.size + 1) (n2 := wr.heap.size) hκ hi256 (by rw [← Hps.out]; exact HU.out) (fun t => by rw [← Hps.out]; exact way_leaf hlt hd1)
              (by rw [← Hps.out]; exact (way_new hlt hd1 HU.out).1) (by rw [← Hps.out]; exact fun j t hj => (way_new hlt hd1 HU.out).2 j t hj) (pre_pos (by omega) hd) Hn4.out Hk4.out
              (fun κ' hκ' e => by have := HT2.out.ltA hκ'; omega) (by have := HB2.out.size; omega) HB2.out.size
            rw [← Ha.out, ← Hps.out] at hTn
            have HTn := Lib.hid (hTn.congr (H' := HP s (d + 1)) (fun κ => hp_succ s d κ) (fun _ _ => Iff.rfl))
            have hLn : Leaves (w4.setCell ⟨a, i, none⟩ (.pointer (some ⟨wr.heap.size + 1, 0, none⟩))) w1.heap.size s := by
              obtain ⟨cs2, hc2, _⟩ := hT4.arr (pre s d) hκ
              exact (HLf2.out.keep (hb4.block _ HLf2.out.lt)).far hc2 (by decide) (by simp; exact Ha.out) _
            have HLn := Lib.hid hLn
            have HBn := Lib.hid ((HB2.out.trans (hb4.mono HB2.out.size)).setCell (p := ⟨a, i, none⟩) (by show w.heap.size ≤ a; rw [Ha.out]; exact (HT2.out.base _ hκ).2) (.pointer (some ⟨wr.heap.size + 1, 0, none⟩)))
            have e1 : (w4.setCell ⟨a, i, none⟩ (.pointer (some ⟨wr.heap.size + 1, 0, none⟩))).cell? ⟨a, i, none⟩ = some (.pointer (some ⟨wr.heap.size + 1, 0, none⟩)) := by
              obtain ⟨cs2, hc2, hs2⟩ := hT4.arr (pre s d) hκ
              rw [Ha.out]; exact put_same hc2 (by rw [hs2]; exact hi256)
            have e2 := ks.out (.pointer (some ⟨wr.heap.size + 1, 0, none⟩))
            have HNn := Lib.hid (show upd N2 (pre s (d + 1)) (wr.heap.size + 1) 1 = w.heap.size + 1 by
              rw [upd_else, HN2.out]
              intro e
              exact HU.out (.inl (.inl e.symm)))
            have HGn := Lib.hid (upd_same N2 (pre s (d + 1)) (wr.heap.size + 1))
            clear hb4 hT4 hTn hLn ks kp hptr kc fz fz4 kc4 Hb4 Hk4 Hn4
            generalize w4.setCell ⟨a, i, none⟩ (.pointer (some ⟨wr.heap.size + 1, 0, none⟩)) = W at *
            go_wp2
            go_roundw
            case rel => exact ⟨d + 1, m - 8, wr.heap.size + 1, upd N2 (pre s (d + 1)) (wr.heap.size + 1), _, hd1, by have := HM.out; omega, HGn.out.symm, by congr 1; omega, rfl, HTn.out, HLn.out, HNn.out, HBn.out⟩
            case measure => simp [intOf]; omega
        · obtain rfl : d = lev s := by have := HM.out; have := L1.out; omega
          obtain rfl : m = rem8 s := by have := HM.out; have := L1.out; omega
          obtain ⟨csl, hcl, hcl2, hcl3, hcl4⟩ := HLf2.out.ex
          have fz : ∀ j, wr.frozen? ⟨w1.heap.size, j, none⟩ = false := fun j => hcl.frozen j
          obtain ⟨v1, hv1⟩ : ∃ v, wr.cell? ⟨w1.heap.size, s * 3 + 1, none⟩ = some v := ⟨_, by rw [hcl.cell, Array.getElem?_eq_getElem (by omega)]⟩
          obtain ⟨v2, hv2⟩ : ∃ v, wr.cell? ⟨w1.heap.size, s * 3 + 2, none⟩ = some v := ⟨_, by rw [hcl.cell, Array.getElem?_eq_getElem (by omega)]⟩
          obtain ⟨st, hst⟩ : ∃ st, st = start8 s := ⟨_, rfl⟩
          obtain ⟨wd, hwd⟩ : ∃ wd, wd = wide8 s := ⟨_, rfl⟩
          obtain ⟨k1, k2, k3, k4⟩ := wide_le (s := s) (by omega)
          rw [← hst, ← hwd] at k1
          rw [← hwd] at k4
          have e1 : (hC s : Int) * 2 ^ (8 - rem8 s) % 256 = (st : Int) := by rw [hst]; unfold start8; simp
          have e2 : wrap64 (2 ^ (8 - rem8 s)) = (wd : Int) := by
            have : (2 : Int) ^ (8 - rem8 s) = (wd : Int) := by rw [hwd]; unfold wide8; simp
            rw [this, IntWalk.wrap64_in _ (by omega)]
          have Hst := Lib.hid hst
          have Hwd := Lib.hid hwd
          have HCl := Lib.hid hcl
          clear k2 k3 hst hwd hcl
          have hdec2 : decide ((8 : Int) < (rem8 s : Nat)) = false := by simp; omega
          have HLn := Lib.hid (HLf2.out.fill hlt)
          have HTn := Lib.hid (((HT2.out.far HCl.out (by decide) (by decide) (p := ⟨w1.heap.size, s * 3 + 2, none⟩) rfl (.int .u8 (s : Nat))).far (HCl.out.put (s * 3 + 2) (.int .u8 (s : Nat))) (by decide) (by decide) (p := ⟨w1.heap.size, s * 3 + 1, none⟩) rfl (.int .u8 (rem8 s : Nat))).congr (H' := HasN (s + 1)) (Lf' := LfP s st) (fun κ => hp_lev κ) (fun u t => by rw [Hst.out]; exact lfp_start u t))
          have HBn := Lib.hid ((HB2.out.setCell (p := ⟨w1.heap.size, s * 3 + 2, none⟩) hLV (.int .u8 (s : Nat))).setCell (p := ⟨w1.heap.size, s * 3 + 1, none⟩) hLV (.int .u8 (rem8 s : Nat)))
          have E2 := Lib.hid e2
          clear e2
          go_wp2
          rw [E2.out]
          generalize (wr.setCell { block := w1.heap.size, off := s * 3 + 2 } (Value.int IntKind.u8 ↑s)).setCell { block := w1.heap.size, off := s * 3 + 1 } (Value.int IntKind.u8 ↑(rem8 s)) = W at *
          have hκ : HasN (s + 1) (pre s (lev s)) := (hp_lev _).1 (.inr ⟨lev s, Nat.le_refl _, rfl⟩)
          obtain ⟨a, ha⟩ : ∃ a, a = A2 (pre s (lev s)) := ⟨_, rfl⟩
          have Ha := Lib.hid ha
          clear ha e1 E2 hdec2 fz hv1 hv2 HLf2 HT2 HB2 HCl hcl2 hcl3 hcl4
          go_loopw [11] (fun iv wr3 => ∃ i : Nat, st ≤ i ∧ i ≤ st + wd ∧ iv = .int .i64 i ∧ Tree wr3 w.heap.size w1.heap.size (HasN (s + 1)) (LfP s i) N2 A2 ∧ Leaves wr3 w1.heap.size (s + 1) ∧ Below w.heap.size w wr3) (fun iv _ => st + wd + 1 - (intOf iv).toNat)
          case atStart => exact ⟨st, Nat.le_refl _, by omega, rfl, HTn.out, HLn.out, HBn.out⟩
          case round =>
            obtain ⟨i, hi1, hi2, rfl, ht3, hlv3, hb3⟩ := hrel
            have HT3 := Lib.hid ht3
            have HL3 := Lib.hid hlv3
            have HB3 := Lib.hid hb3
            clear ht3 hlv3 hb3 HTn HLn HBn
            by_cases hlt3 : i < st + wd
            · have hptr := HT3.out.ptr hκ
              rw [← HGg.out, ← Ha.out] at hptr
              have fz3 : wr.frozen? ⟨a, i, none⟩ = false := by rw [Ha.out]; exact HT3.out.frozenA hκ i
              obtain ⟨v3, hv3⟩ : ∃ v, wr.cell? ⟨a, i, none⟩ = some v := by
                obtain ⟨cs2, hc2, hs2⟩ := HT3.out.arr _ hκ
                rw [Ha.out, hc2.cell, Array.getElem?_eq_getElem (by omega)]
                exact ⟨_, rfl⟩
              have hi3 : (0 : Int) ≤ (i : Int) := by omega
              have hi4 : (i : Int) < 256 := by omega
              have hs3 : (0 : Int) ≤ (s : Int) := by omega
              have hs4 : (s : Int) < 256 := by omega
              obtain ⟨q1, q2⟩ := lfp_free (s := s) (i := i) hlt (by rw [← Hst.out]; exact hi1) (by rw [← Hst.out, ← Hwd.out]; exact hlt3)
              have hTl := HT3.out.leafStore (t := s) hκ (show i < 256 by omega) q1 q2
              rw [← Ha.out] at hTl
              have HTl := Lib.hid (hTl.congr (Lf' := LfP s (i + 1)) (fun _ => Iff.rfl) (fun u t => lfp_succ (by rw [← Hst.out]; exact hi1) u t))
              have HLl := Lib.hid (show Leaves (wr.setCell ⟨a, i, none⟩ (.pointer (some ⟨w1.heap.size, s * 3, none⟩))) w1.heap.size (s + 1) by
                obtain ⟨cs2, hc2, _⟩ := HT3.out.arr _ hκ
                exact HL3.out.far hc2 (by decide) (by simp; exact Ha.out) _)
              have HBl := Lib.hid (HB3.out.setCell (p := ⟨a, i, none⟩) (by show w.heap.size ≤ a; rw [Ha.out]; exact (HT3.out.base _ hκ).2) (.pointer (some ⟨w1.heap.size, s * 3, none⟩)))
              clear hTl q1 q2
              go_wp2
              go_region
              all_goals
                have HTd := Lib.hid HTl.out.drew
                have HLd := Lib.hid (HLl.out.keep (w' := (wr.setCell ⟨a, i, none⟩ (.pointer (some ⟨w1.heap.size, s * 3, none⟩))).drew) rfl)
                have HBd := Lib.hid (show Below w.heap.size w (wr.setCell ⟨a, i, none⟩ (.pointer (some ⟨w1.heap.size, s * 3, none⟩))).drew from ⟨HBl.out.os, HBl.out.tape, HBl.out.output, HBl.out.size, HBl.out.block⟩)
                go_wp2
                go_roundw
                case rel => exact ⟨i + 1, by omega, by omega, by go_num, HTd.out, HLd.out, HBd.out⟩
                case measure => simp [intOf]; omega
            · have hie : i = start8 s + wide8 s := by rw [← Hst.out, ← Hwd.out]; omega
              have HTe := Lib.hid (HT3.out.congr (Lf' := LeafN (s + 1)) (fun _ => Iff.rfl) (fun u t => by rw [hie]; exact lfp_end (by omega) u t))
              clear hie
              go_wp2
              go_roundw
              case rel => exact ⟨s + 1, N2, A2, by omega, by go_num, HTe.out, HL3.out, HN2.out, HB3.out⟩
              case measure => simp [intOf]; omega
    · have HTe := Lib.hid (show Tree wr w.heap.size w1.heap.size (HasN 256) (LeafN 256) N A from (show s = 256 by omega) ▸ HTr.out)
      have HLe := Lib.hid (show Leaves wr w1.heap.size 256 from (show s = 256 by omega) ▸ HLf.out)
      go_wp2
      go_ret
      exact ⟨N, A, w1.heap.size, by rw [HN.out]; rfl, HTe.out, HLe.out, HB.out⟩
end Go.Proofs.YthnaobmepfkkpaaDoor
