/- Strings with a prefix: what is written (appendPrefixedString; the reference's String). -/
import Derived.Test.YthnaobmepfkkpaaDoorUnh2
import Derived.Lib.AppendStr
namespace Go.Proofs.YthnaobmepfkkpaaDoor
open Go Go.RowKit

/-- A string's bytes as numbers. -/
def snum (s : ByteArray) : List Int := nz (bsTo s s.size)
theorem bsTo_length (s : ByteArray) (j : Nat) : (bsTo s j).length = j := by unfold bsTo; simp
theorem snum_length (s : ByteArray) : (snum s).length = s.size := by unfold snum; rw [nz_length, bsTo_length]
theorem bsTo_data (s : ByteArray) : bsTo s s.size = s.data.toList.map fun b => b.toNat := by
  apply List.ext_getElem
  · rw [bsTo_length]; simp
  · intro i h1 h2
    have hi : i < s.size := by rw [bsTo_length] at h1; exact h1
    have e1 : (bsTo s s.size)[i] = byt s i := by simp [bsTo]
    rw [e1, List.getElem_map, ← byt_at hi]
    rfl
theorem snum_cells (s : ByteArray) : Lib.strCells s = (snum s).map (Value.int .u8) := by
  unfold Lib.strCells snum nz
  rw [bsTo_data]
  simp [List.map_map]
theorem str_snum (s : ByteArray) : strOfNums (snum s) = s := by
  have h : (strOfNums (snum s)).data.toList = s.data.toList := by
    rw [strOfNums_data]
    unfold snum nz
    rw [bsTo_data, List.map_map, List.map_map]
    conv => rhs; rw [← List.map_id s.data.toList]
    apply List.map_congr_left
    intro b _
    simp
  cases s with
  | mk d => 
    have h2 : (strOfNums (snum ⟨d⟩)).data = d := Array.ext' h
    cases h3 : strOfNums (snum ⟨d⟩) with
    | mk d' => rw [h3] at h2; simp at h2; rw [h2]
theorem snum_byt (s : ByteArray) : Byt (snum s) := fun x hx => by
  unfold snum nz at hx
  obtain ⟨n, hn, rfl⟩ := List.mem_map.1 hx
  have := bsTo_lt s s.size n hn
  omega

section
variable {P : Program} (w : World)
theorem wpList_apps {ops : Array Oper} {rest : List Oper} {o : Oper} {a : Act} {Q : Exit → Act → World → Prop} (hgd : o.guard = none) (s x : Operand)
    {t u e : TypeId} (L : Elem P .u8 t e 1) (hu : P.underlying u = some .string) (ho : o.op = .call { callee := .builtin .append, args := #[s, x], argTypes := #[t, u] })
    (base : Nat) (A : Option Addr) (n c : Nat) (xs : List Int) (hs : a.eval s = .slice A n c) (hown : Own .u8 e w base A n c xs)
    (str : ByteArray) (hx : a.eval x = .string str) (hbytes : n + str.size ≤ 140737488355328) (hbase : base ≤ w.heap.size)
    (h : ∀ A' l c' w', Hid (l = n + str.size) → Own .u8 e w' base A' l c' (xs ++ snum str) → w.grownBy w' (Value.slice A n c).ownBlock →
      wpList P ops Q rest (a.put o.dst (.slice A' l c')) w') : wpList P ops Q (o :: rest) a w := by
  obtain ⟨i, hi, hz, hsz, hby⟩ := L.info
  refine Lib.wpList_append_own_string w hgd s x t u ho base e i L.slice hu hi hz hsz hby _ n (xs.map (Value.int .u8)) hs hown str hx (by unfold maxLen; omega) hbytes hbase fun v' w' hown' hg _ => ?_
  obtain ⟨A', c', rfl⟩ : ∃ A' c', v' = .slice A' (n + str.size) c' := by
    rcases hown'.2 with ⟨rfl, h0⟩ | ⟨g, cap, cur, rfl, _⟩
    · exact ⟨none, 0, by rw [h0]⟩
    · exact ⟨_, _, rfl⟩
  refine h A' (n + str.size) c' w' rfl ?_ hg
  unfold Own
  rw [List.map_append, ← snum_cells]
  exact hown'
end

/-- Bytes yn are the code of a string, filled with p ones. -/
structure HufB (s : ByteArray) (yn : List Nat) (p : Nat) : Prop where
  p_lt : p < 8
  bits : bitsB yn = hb s s.size ++ bitsN (2 ^ p - 1) p
  bytes : ∀ y ∈ yn, y < 256
theorem HufB.len {s : ByteArray} {yn : List Nat} {p : Nat} (h : HufB s yn p) : 8 * yn.length = (hb s s.size).length + p := by
  have := congrArg List.length h.bits
  rwa [bitsB_length, List.length_append, bitsN_length] at this
theorem HufB.len2 {s : ByteArray} {yn : List Nat} {p : Nat} (h : HufB s yn p) : yn.length = ((hb s s.size).length + 7) / 8 := by
  have := h.len; have := h.p_lt; omega
theorem HufB.uniq {s : ByteArray} {yn zn : List Nat} {p q : Nat} (h : HufB s yn p) (k : HufB s zn q) : yn = zn := by
  have h1 := h.len; have h2 := k.len; have h3 := h.p_lt; have h4 := k.p_lt
  obtain rfl : p = q := by omega
  exact bitsB_inj h.bytes k.bytes (h.bits.trans k.bits.symm)
theorem HufB.read {s : ByteArray} {yn : List Nat} {p : Nat} (h : HufB s yn p) : Unh yn s true := by
  refine .inr ⟨bsTo s s.size, p, 2 ^ p - 1, ?_, ?_, ?_⟩
  · rw [h.bits]
    exact read_whole code look_Look _ (bsTo_lt s s.size) h.p_lt
  · exact (str_snum s).symm
  · have := h.p_lt
    simp [this]

/-- The bit ahead of the length. -/
theorem or_bitk {f : Int} {k : Nat} (h0 : 0 ≤ f) (h1 : f ≤ 255) (hk : f % 2 ^ (k + 1) = 0) (h7 : k ≤ 7) : bits .or .u8 f (2 ^ k % 256) = f + 2 ^ k ∧ f + 2 ^ k ≤ 255 ∧ (f + 2 ^ k) % 2 ^ k = 0 ∧ f % 2 ^ k = 0 := by
  have e : ∀ j : Nat, j ≤ 7 → (2 : Int) ^ j % 256 = 2 ^ j := by
    intro j hj
    rcases (show j = 0 ∨ j = 1 ∨ j = 2 ∨ j = 3 ∨ j = 4 ∨ j = 5 ∨ j = 6 ∨ j = 7 by omega) with rfl | rfl | rfl | rfl | rfl | rfl | rfl | rfl <;> decide
  rw [e k h7]
  have hor := bits_join .u8 8 (by decide) wraps_u8 (k + 1) f (2 ^ k) h0 hk (by omega) (Int.le_of_lt (Int.pow_pos (by decide))) (by rw [Int.pow_succ]; have : (0 : Int) < 2 ^ k := Int.pow_pos (by decide); omega) (by
    rcases (show k = 0 ∨ k = 1 ∨ k = 2 ∨ k = 3 ∨ k = 4 ∨ k = 5 ∨ k = 6 ∨ k = 7 by omega) with rfl | rfl | rfl | rfl | rfl | rfl | rfl | rfl <;> decide)
  refine ⟨hor, ?_⟩
  clear hor
  rcases (show k = 0 ∨ k = 1 ∨ k = 2 ∨ k = 3 ∨ k = 4 ∨ k = 5 ∨ k = 6 ∨ k = 7 by omega) with rfl | rfl | rfl | rfl | rfl | rfl | rfl | rfl <;> (simp only [Int.reducePow, Nat.reduceAdd] at *; omega)

set_option maxHeartbeats 400000 in
theorem aps_any {w : World} {f : Int} {k : Nat} {s : ByteArray} (hT : TabL w) (hTc : TabC w) (h0 : 0 ≤ f) (h1 : f ≤ 255) (hk : f % 2 ^ (k + 1) = 0) (hk1 : 1 ≤ k) (h7 : k ≤ 7) (hs : s.size ≤ 2147483647) (hc : ((hb s s.size).length + 7) / 8 < s.size) :
    Calls Tryd.prog 19 #[.slice none 0 0, .int .u8 f, .int .u8 k, .string s] w fun e w' => ∃ yn p, HufB s yn p ∧ Wrote w w.heap.size w.heap.size (pint (f + 2 ^ k) k yn.length ++ nz yn) e w' := by
  have HTL := Lib.hid hT
  have HTC := Lib.hid hTc
  have hwl := hT.lt
  have hwc := hTc.lt
  obtain ⟨hor, hF1, hF2, _⟩ := or_bitk h0 h1 hk h7
  have hF0 : 0 ≤ f + 2 ^ k := Int.add_nonneg h0 (Int.le_of_lt (Int.pow_pos (by decide)))
  generalize hF : f + 2 ^ k = F at *
  have HF2 := Lib.hid hF2
  clear hT hTc hk hF hF2
  have hl30 := hb_len_le s s.size
  generalize hTt : (hb s s.size).length = T at *
  have HTt := Lib.hid hTt
  obtain ⟨N, hN⟩ : ∃ N, N = (T + 7) / 8 := ⟨_, rfl⟩
  have hNi : ((T : Int) + 7) / 8 = (N : Int) := by omega
  have HN := Lib.hid hN
  have hNs : N < s.size := by omega
  clear hTt hN hc hl30
  go_enter Tryd.func19, Tryd.ntmps19
  go_wp2_with fail
  refine (helen_any HTL.out hs).mono ?_
  rintro e w1 ⟨rfl, rfl⟩
  rw [HTt.out, ← HN.out]
  go_wp2_with fail
  refine (api_any (Own.nil .u8 5 w w.heap.size) (Nat.le_refl _) (by omega) hF0 hF1 HF2.out hk1 (by omega) (by omega) (by omega)).mono ?_
  rintro e w2 ⟨A2, l2, c2, rfl, ho2, hb2⟩
  rw [List.nil_append] at ho2
  have HO2 := Lib.hid ho2
  have HB2 := Lib.hid hb2
  have hl2 : l2 ≤ 10 := by have := ho2.len; have := (pint_length F k (N : Int)).2; omega
  clear ho2 hb2
  go_wp2_with fail
  refine (ahs_any (HTL.out.below HB2.out hwl) (HTC.out.below HB2.out hwc) hwl hwc HB2.out.size HO2.out (by omega) hs).mono ?_
  rintro e w3 ⟨⟨A3, l3, c3, yn, p, rfl, ho3, hp, hbits, hy⟩, hb3⟩
  have HO3 := Lib.hid ho3
  have HB3 := Lib.hid (HB2.out.trans hb3)
  have HH := Lib.hid (⟨hp, hbits, hy⟩ : HufB s yn p)
  clear ho3 hb3 hbits hy
  go_wp2
  go_ret
  have hlen := HH.out.len2
  rw [HTt.out, ← HN.out] at hlen
  exact ⟨yn, p, HH.out, A3, l3, c3, rfl, by rw [hlen]; exact HO3.out, HB3.out⟩

set_option maxHeartbeats 400000 in
theorem aps_plain {w : World} {f : Int} {k : Nat} {s : ByteArray} (hT : TabL w) (h0 : 0 ≤ f) (h1 : f ≤ 255) (hk : f % 2 ^ (k + 1) = 0) (hk1 : 1 ≤ k) (h7 : k ≤ 7) (hs : s.size ≤ 2147483647) (hc : ¬ ((hb s s.size).length + 7) / 8 < s.size) :
    Calls Tryd.prog 19 #[.slice none 0 0, .int .u8 f, .int .u8 k, .string s] w (Wrote w w.heap.size w.heap.size (pint f k s.size ++ snum s)) := by
  have HTL := Lib.hid hT
  obtain ⟨_, _, _, hF2⟩ := or_bitk h0 h1 hk h7
  have HF2 := Lib.hid hF2
  clear hT hk hF2
  have hl30 := hb_len_le s s.size
  generalize hTt : (hb s s.size).length = T at *
  have HTt := Lib.hid hTt
  obtain ⟨N, hN⟩ : ∃ N, N = (T + 7) / 8 := ⟨_, rfl⟩
  have hNi : ((T : Int) + 7) / 8 = (N : Int) := by omega
  have HN := Lib.hid hN
  have hNs : ¬ N < s.size := by omega
  have hN2 : N ≤ 30 * s.size + 7 := by omega
  clear hTt hN hc hl30
  go_enter Tryd.func19, Tryd.ntmps19
  go_wp2_with fail
  refine (helen_any HTL.out hs).mono ?_
  rintro e w1 ⟨rfl, rfl⟩
  rw [HTt.out, ← HN.out]
  go_wp2_with fail
  refine (api_any (Own.nil .u8 5 w w.heap.size) (Nat.le_refl _) (by omega) h0 h1 HF2.out hk1 (by omega) (by omega) (by omega)).mono ?_
  rintro e w2 ⟨A2, l2, c2, rfl, ho2, hb2⟩
  rw [List.nil_append] at ho2
  have HO2 := Lib.hid ho2
  have HB2 := Lib.hid hb2
  have hl2 : l2 ≤ 10 := by have := ho2.len; have := (pint_length f k (s.size : Int)).2; omega
  have hz2 := hb2.size
  clear ho2 hb2
  go_wp2_with (at_builtin; refine wpList_apps _ rfl _ _ elem8 Tryd.underlying9 rfl w.heap.size A2 l2 c2 (pint f k s.size) rfl HO2.out s rfl (by omega) hz2 ?_; intro A3 l3 c3 w3 hl3 hown3 hg3; have HB3 := Lib.hid (below_app HB2.out HO2.out hg3 hz2 (Nat.le_refl _)); have HO3 := Lib.hid hown3; clear hown3 hg3)
  go_ret
  exact ⟨A3, l3, c3, rfl, HO3.out, HB3.out⟩
end Go.Proofs.YthnaobmepfkkpaaDoor
