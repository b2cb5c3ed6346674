/- The law FnReadString: the walk. -/
import Derived.Test.YthnaobmepfkkpaaDoorRst3
namespace Go.Proofs.YthnaobmepfkkpaaDoor
open Go Go.RowKit Go.ChangeShapes

/-- What ParseInteger says of the bytes. -/
def PI (w : World) (A : Option Addr) (n c p : Nat) (N U : Int) (is sure : Bool) : Prop :=
  Calls Tryd.prog 11 #[.slice A n c, .int .i64 p] w fun e w' => e = .returned (.tuple #[.int .u64 N, .int .i64 U, .bool is, .bool sure]) ∧ w = w'
/-- How ParseString ends. -/
def PsPost (w : World) (J : ByteArray → Int → Bool → Prop) (e : Ending) (w' : World) : Prop :=
  (∃ (str : ByteArray) (u : Int) (ok sure : Bool), e = .returned (.tuple #[.string str, .int .i64 u, .bool ok, .bool sure]) ∧ J str u ok) ∧ Below w.heap.size w w'
/-- The reference and the package agree. -/
def Agrees (n : Nat) (J : ByteArray → Int → Bool → Prop) (P : ByteArray → List Int → Bool → Prop) : Prop :=
  ∀ s u ok str rest ok', J s u ok → P str rest ok' → (ok = true → ok' = true ∧ str = s ∧ (rest.length : Int) = (n : Int) - u ∧ 0 ≤ u ∧ u ≤ (n : Int)) ∧ (ok = false → ok' = false)
/-- How the law goes at a prefix of p bits. -/
def CaseP (w : World) (A : Option Addr) (n c p : Nat) : Prop :=
  (∃ (N U : Int) (is : Bool), PI w A n c p N U is false) ∨ (∃ N U : Int, PI w A n c p N U true true ∧ 1048576 < N) ∨
  (∃ (N U : Int) (is : Bool) (J : ByteArray → Int → Bool → Prop) (P : ByteArray → List Int → Bool → Prop), PI w A n c p N U is true ∧ (is = true → N ≤ 1048576) ∧
    Calls Tryd.prog 7 #[.slice A n c, .int .i64 p] w (PsPost w J) ∧ (∀ w2, Below w.heap.size w w2 → Calls Tryd.prog 12 #[.slice A n c, .int .u8 p] w2 (RsPost w2 P)) ∧ Agrees n J P)

set_option maxRecDepth 100000 in
set_option maxHeartbeats 1600000 in
theorem frs_go {w : World} {a1 : Int} {A : Option Addr} {n c : Nat} (h1 : (Lit.int .i64 a1).wf = true) (hn : n ≤ 2147483647) (hc : ∀ p, 1 ≤ p → p ≤ 7 → CaseP w A n c p) :
    Calls Tryd.prog 4 #[.slice A n c, .int .i64 a1] w fun e w' => e = .returned (.bool true) ∧ Below w.heap.size w w' := by
  have Hc := Lib.hid hc
  have Hp := Lib.hid (pfx a1 7 w h1 (by omega) (by omega))
  clear h1 hc
  go_enter Tryd.func4, Tryd.ntmps4
  go_wp2_with fail
  refine Hp.out.mono ?_
  rintro e w' ⟨⟨p, hp1, hp7, rfl⟩, rfl⟩
  clear Hp
  rcases Hc.out p hp1 hp7 with ⟨N, U, is, hpi⟩ | ⟨N, U, hpi, hbig⟩ | ⟨N, U, is, J, P, hpi, his, hps, hrs', hag⟩
  · have HPI := Lib.hid hpi
    clear hpi Hc
    go_wp2_with fail
    refine HPI.out.mono ?_
    rintro e w' ⟨rfl, rfl⟩
    clear HPI
    go_wp2
    go_ret
    exact ⟨rfl, Below.refl _ _⟩
  · have HPI := Lib.hid hpi
    clear hpi Hc
    go_wp2_with fail
    refine HPI.out.mono ?_
    rintro e w' ⟨rfl, rfl⟩
    clear HPI
    go_wp2
    go_ret
    exact ⟨rfl, Below.refl _ _⟩
  · have HPI := Lib.hid hpi
    have HPS := Lib.hid hps
    have HRS := Lib.hid hrs'
    have HAG := Lib.hid hag
    have HIS := Lib.hid his
    clear hpi hps hrs' hag his Hc
    go_wp2_with fail
    refine HPI.out.mono ?_
    rintro e w' ⟨rfl, rfl⟩
    clear HPI
    have hmain : Hid (is = false ∨ (is = true ∧ N ≤ 1048576)) := by
      show _ ∨ _
      cases is
      · exact .inl rfl
      · exact .inr ⟨rfl, HIS.out rfl⟩
    clear HIS
    rcases hmain.out with rfl | ⟨rfl, hN⟩
    all_goals
      clear hmain
      go_wp2_with fail
      refine HPS.out.mono ?_
      rintro e w1 ⟨⟨s, u, ok, sure, rfl, hJ⟩, hb1⟩
      have HJ := Lib.hid hJ
      have HB1 := Lib.hid hb1
      have HR := Lib.hid (HRS.out w1 hb1)
      clear hJ hb1 HPS HRS
      go_wp2_with fail
      refine HR.out.mono ?_
      rintro e w2 ⟨⟨f, str, rest, ok', kk, rfl, hP, hk⟩, hb2⟩
      have HB2 := Lib.hid (HB1.out.trans (hb2.mono HB1.out.size))
      obtain ⟨q1, q2⟩ := HAG.out s u ok str rest ok' HJ.out hP
      have Q1 := Lib.hid q1
      have Q2 := Lib.hid q2
      have HK := Lib.hid hk
      clear hP hb2 HR HB1 HJ HAG q1 q2 hk
      cases ok with
      | false =>
        obtain rfl := Q2.out rfl
        have hkk : kk = 512 := by
          rcases HK.out with ⟨h, _⟩ | ⟨_, h⟩
          · cases h
          · exact h
        subst hkk
        clear Q1 Q2 HK
        go_wp2
        go_ret
        exact ⟨rfl, HB2.out⟩
      | true =>
        obtain ⟨rfl, rfl, hl, hu0, hun⟩ := Q1.out rfl
        have hkk : kk = 0 := by
          rcases HK.out with ⟨_, h⟩ | ⟨h, _⟩
          · exact h
          · cases h
        subst hkk
        obtain ⟨l, hll⟩ : ∃ l : Int, l = (rest.length : Int) := ⟨_, rfl⟩
        have hlu : l = (n : Int) - u := hll.trans hl
        rw [← hll]
        have HLU := Lib.hid hlu
        have hbq : (l == (n : Int) - u) = true := by rw [beq_iff_eq]; exact hlu
        clear Q1 Q2 HK hl hll hlu
        go_wp2
        go_ret
        exact ⟨rfl, HB2.out⟩

/-- Bytes as natural numbers. -/
theorem nz_toNat {l : List Int} (h : Byt l) : nz (l.map Int.toNat) = l ∧ ∀ y ∈ l.map Int.toNat, y < 256 := by
  refine ⟨?_, fun y hy => ?_⟩
  · unfold nz
    rw [List.map_map]
    conv => rhs; rw [← List.map_id l]
    apply List.map_congr_left
    intro x hx
    have := h x hx
    simp; omega
  · obtain ⟨x, hx, rfl⟩ := List.mem_map.1 hy
    have := h x hx
    omega
section
variable {w : World} {A : Option Addr} {n c p : Nat} {x : Int} {r xs : List Int} {a0 au ai : Addr}
theorem Glob.belowG {w w' : World} {a0 au ai : Addr} (h : Glob w a0 au ai) (hb : Below w.heap.size w w') : Glob w' a0 au ai := h.keep fun k hk => hb.block k (by have := h.lt; omega)
/-- Neither reads the string. -/
theorem case_no {N U : Int} {is : Bool} (hG : Glob w a0 au ai) (hr : Rd .u8 w A xs) (hn : xs.length = n) (hy : Byt xs) (h31 : n ≤ 2147483647) (hpi : PI w A n c p N U is true) (his : is = true → N ≤ 1048576)
    (hps : Calls Tryd.prog 7 #[.slice A n c, .int .i64 p] w fun e w' => e = .returned (.tuple #[.string ByteArray.empty, .int .i64 0, .bool false, .bool true]) ∧ w = w')
    (hb : ∀ (w1 : World) (Q S : Nat), Stm w1 Q S (-1) xs → Glob w1 a0 au ai → 5 < Q → Q < S → S < w1.heap.size → Calls Tryd.prog 23 #[.pointer (some ⟨S, 0, none⟩), .int .u8 p] w1 (RpsPost w1 Q S fun _ _ ok => ok = false)) : CaseP w A n c p := by
  refine .inr (.inr ⟨N, U, is, fun _ _ ok => ok = false, fun _ _ ok => ok = false, hpi, his, ?_, fun w2 hb2 => ?_, ?_⟩)
  · refine hps.mono ?_
    rintro e w' ⟨rfl, rfl⟩
    exact ⟨⟨_, _, _, _, rfl, rfl⟩, Below.refl _ _⟩
  · exact irs (hrs (hr.below hb2 (Nat.le_refl _)) hn hy (by omega) (hG.belowG hb2) hb)
  · rintro s u ok str rest ok' h1 h2
    subst h1 h2
    exact ⟨(fun h => by cases h), fun _ => rfl⟩
/-- The length is read. -/
theorem case_yes {N U : Nat} (hG : Glob w a0 au ai) (hr : Rd .u8 w A (x :: r)) (hn : (x :: r).length = n) (hy : Byt (x :: r)) (h31 : n ≤ 2147483647) (hnc : n ≤ c) (hc : c ≤ 9223372036854775807) (h7 : p ≤ 7) (hU : U ≤ n) (h20 : N ≤ 1048576)
    (hpi : PI w A n c p N U true true)
    (hint : ∀ (w2 : World) (Q S : Nat), Stm w2 Q S (-1) r → Calls Tryd.prog 33 #[.pointer (some ⟨S, 0, none⟩), .int .u8 x, .int .u8 p] w2 fun e w' => e = .returned (.tuple #[.int .i64 (N : Int), .nilIface]) ∧ Stm w' Q S (-1) ((x :: r).drop U) ∧ Fr Q Q w2 w') : CaseP w A n c p := by
  obtain ⟨hx0, hx1⟩ := hy.head
  by_cases hcut : n < U + N
  · refine case_no hG hr hn hy h31 hpi (fun _ => by omega) (ps_short hpi hU (by omega) hcut) fun w1 Q S hS hG1 h5 hQS hSw => ?_
    exact rps_cut hS hG1 h5 hQS hSw (fun w2 h2 => hint w2 Q S h2) (by rw [List.length_drop]; omega) h20
  · obtain ⟨e1, e2⟩ := nz_toNat ((hy.drop U).take N)
    have hl : (((x :: r).drop U).take N).length = N := by rw [List.length_take, List.length_drop]; omega
    have hsplit : x :: r = (x :: r).take U ++ (nz ((((x :: r).drop U).take N).map Int.toNat) ++ ((x :: r).drop U).drop N) := by
      rw [e1, List.take_append_drop, List.take_append_drop]
    have hdr : (x :: r).drop U = nz ((((x :: r).drop U).take N).map Int.toNat) ++ ((x :: r).drop U).drop N := by rw [e1, List.take_append_drop]
    have hly : ((((x :: r).drop U).take N).map Int.toNat).length = N := by rw [List.length_map]; exact hl
    have hml : (((x :: r).drop U).drop N).length = n - (U + N) := by rw [List.length_drop, List.length_drop]; omega
    have hpre : ((x :: r).take U).length = U := by rw [List.length_take]; omega
    generalize (((x :: r).drop U).take N).map Int.toNat = ys at *
    generalize ((x :: r).drop U).drop N = more at *
    generalize (x :: r).take U = pre at *
    refine .inr (.inr ⟨N, U, true, fun s u ok => u = ((U + N : Nat) : Int) ∧ ((x / 2 ^ p % 2 = 0 ∧ ok = true ∧ s = strOfNums (nz ys)) ∨ (x / 2 ^ p % 2 = 1 ∧ Unh ys s ok)), Found x p ys more, hpi, fun _ => by omega, ?_, fun w2 hb2 => ?_, ?_⟩)
    · by_cases hbit : x / 2 ^ p % 2 = 1
      · refine (ps_huff hpi hr hn hx0 hx1 hnc hc hsplit hpre hly e2 (by omega) hbit h7).mono ?_
        rintro e w' ⟨⟨str, ok, rfl, hu⟩, hb⟩
        exact ⟨⟨_, _, _, _, rfl, rfl, .inr ⟨hbit, hu⟩⟩, hb⟩
      · have hbit0 : x / 2 ^ p % 2 = 0 := by omega
        refine (ps_plain hpi hr hn hx0 hx1 hnc hc hsplit hpre (by rw [nz_length]; exact hly) hbit0 h7).mono ?_
        rintro e w' ⟨rfl, rfl⟩
        exact ⟨⟨_, _, _, _, rfl, rfl, .inl ⟨hbit0, rfl, rfl⟩⟩, Below.refl _ _⟩
    · refine irs (hrs (hr.below hb2 (Nat.le_refl _)) hn hy (by omega) (hG.belowG hb2) fun w1 Q S hS hG1 h5 hQS hSw => ?_)
      exact rps_ok hS hG1 h5 hQS hSw (fun w2 h2 => by rw [← hdr]; exact hint w2 Q S h2) hx0 hx1 h7 hly e2 h20
    · rintro s u ok str rest ok' ⟨rfl, hJ⟩ ⟨rfl, hP⟩
      rcases hJ with ⟨b1, rfl, rfl⟩ | ⟨b1, hu⟩ <;> rcases hP with ⟨b2, rfl, rfl⟩ | ⟨b2, hP⟩
      · exact ⟨fun _ => ⟨rfl, rfl, by omega, by omega, by omega⟩, fun h => by cases h⟩
      · omega
      · omega
      · rcases hP with ⟨rfl, hs⟩ | ⟨rfl, s', hs⟩
        · obtain ⟨rfl, rfl⟩ := hu.fun_ hs
          exact ⟨fun _ => ⟨rfl, rfl, by omega, by omega, by omega⟩, fun h => by cases h⟩
        · obtain ⟨rfl, rfl⟩ := hu.fun_ hs
          exact ⟨(fun h => by cases h), fun _ => rfl⟩
theorem case_all (hG : Glob w a0 au ai) (hr : Rd .u8 w A xs) (hn : xs.length = n) (hy : Byt xs) (h31 : n ≤ 2147483647) (hnc : n ≤ c) (hc : c ≤ 9223372036854775807) (hp1 : 1 ≤ p) (h7 : p ≤ 7) : CaseP w A n c p := by
  cases xs with
  | nil =>
    obtain rfl : n = 0 := by simpa using hn.symm
    exact case_no hG hr hn hy h31 (pi_nil w A c p) (fun h => by cases h) (ps_no (pi_nil w A c p)) fun w1 Q S hS hG1 h5 hQS hSw => rps_nil' hS hG1 h5
  | cons x r =>
    obtain ⟨hx0, hx1⟩ := hy.head
    obtain ⟨hb0, hb1⟩ := most_cases hp1 (by omega)
    obtain ⟨hl0, hl1⟩ := low_bound x hp1 (show p ≤ 8 by omega)
    have hn0 : 1 ≤ n := by rw [← hn]; simp
    by_cases hlt : low x p < most p
    · have hpi := pi_small (c := c) hr hn hy hp1 (by omega) hlt
      obtain ⟨N, hN⟩ : ∃ N : Nat, low x p = (N : Int) := ⟨(low x p).toNat, by omega⟩
      rw [hN] at hpi
      refine case_yes (N := N) (U := 1) hG hr hn hy h31 hnc hc h7 hn0 (by omega) hpi fun w2 Q S hS => ?_
      refine (rpb_small hx0 hx1 hp1 (by omega) hlt).mono ?_
      rintro e w' ⟨rfl, rfl⟩
      exact ⟨by rw [hN], hS, Fr.refl _ _ _⟩
    · have heq : low x p = most p := by omega
      rcases how r with ⟨t, ht8, ht, hC, hT⟩ | ⟨h9, hC⟩ | ⟨h9, hC⟩
      · have hpi := pi_ok (c := c) hr hn hy (by omega) hp1 (by omega) heq ht8 ht hC hT
        have hpb := (pat_bound r (t + 1)).1
        obtain ⟨N, hN⟩ : ∃ N : Nat, most p + pat r (t + 1) = (N : Int) := ⟨(most p + pat r (t + 1)).toNat, by omega⟩
        rw [hN] at hpi
        by_cases hsure : (N : Int) < 4611686018427387904
        · rw [show decide ((N : Int) < 4611686018427387904) = true by simpa using hsure] at hpi
          by_cases hbig : 1048576 < (N : Int)
          · exact .inr (.inl ⟨N, _, hpi, hbig⟩)
          · have hU : t + 2 ≤ n := by rw [← hn]; simp; omega
            refine case_yes (N := N) (U := t + 2) hG hr hn hy h31 hnc hc h7 hU (by omega) (by rw [show ((t + 2 : Nat) : Int) = (t : Int) + 2 by omega]; exact hpi) fun w2 Q S hS => ?_
            refine (rpb_ok hS (by omega) hx0 hx1 hp1 (by omega) heq ht8 ht hC hT (by omega)).mono ?_
            rintro e w' ⟨rfl, hS', hf⟩
            exact ⟨by rw [hN], hS', hf⟩
        · rw [show decide ((N : Int) < 4611686018427387904) = false by simpa using hsure] at hpi
          exact .inl ⟨N, _, true, hpi⟩
      · have hpi := pi_short (c := c) hr hn hy (by omega) hp1 (by omega) heq h9 hC
        refine case_no hG hr hn hy h31 hpi (fun h => by cases h) (ps_no hpi) fun w1 Q S hS hG1 h5 hQS hSw => ?_
        exact rps_err hS hG1 h5 fun w2 h2 hG2 => rpb_short h2 (by omega) hx0 hx1 hp1 (by omega) heq h9 hC hG2.eof (by show 0 < Q; omega)
      · exact .inl ⟨0, 0, false, pi_long (c := c) hr hn hy (by omega) hp1 (by omega) heq h9 hC⟩
end
namespace fnReadString

theorem walk {w : World} {A : Option Addr} {n c : Nat} {xs : List Int} {a1 : Int} (h : Came .u8 w A n c xs) (h1 : (Lit.int .i64 a1).wf = true)
    (hL : laidMetH Tryd.prog [("io.ErrShortBuffer", Rows.laid_io_ErrShortBuffer), ("io.EOF", Rows.laid_io_EOF), ("io.ErrUnexpectedEOF", Rows.laid_io_ErrUnexpectedEOF), ("bytes.ErrTooLarge", Rows.laid_bytes_ErrTooLarge), ("semaphorist/pub/hpack.ErrStringLength", Rows.laid_semaphorist_pub_hpack_ErrStringLength), ("semaphorist/pub/hpack.ErrInvalidHuffman", Rows.laid_semaphorist_pub_hpack_ErrInvalidHuffman), ("semaphorist/pub/hpack.huffmanCodes", Rows.laid_semaphorist_pub_hpack_huffmanCodes), ("semaphorist/pub/hpack.huffmanCodeLen", Rows.laid_semaphorist_pub_hpack_huffmanCodeLen)] w) :
    Calls Tryd.prog 4 #[.slice A n c, .int .i64 a1] w fun e w' => e = .returned (.bool true) ∧ Below w.heap.size w w' := by
  rw [MakeChecks.laidMetH_plain _ _ _ (by kernel_rfl)] at hL
  obtain ⟨a0, hE⟩ := eof_of_head hL.tail
  obtain ⟨au, hU⟩ := ueof_of hL.tail.tail
  obtain ⟨ai, hI⟩ := inv_of hL.tail.tail.tail.tail.tail
  have hG : Glob w a0 au ai := ⟨hE, hU, hI, tabL_of hL.tail.tail.tail.tail.tail.tail.tail, rowC_of hL.tail.tail.tail.tail.tail.tail⟩
  clear hL hE hU hI
  by_cases hbig : 2147483647 < n
  · clear hG h
    go_enter Tryd.func4, Tryd.ntmps4
    go_wp2
    go_ret
    exact ⟨rfl, Below.refl _ _⟩
  · exact frs_go h1 (by omega) fun p hp1 hp7 => case_all hG h.rd h.len h.byt (by omega) h.cap h.most hp1 hp7
end fnReadString
end Go.Proofs.YthnaobmepfkkpaaDoor
