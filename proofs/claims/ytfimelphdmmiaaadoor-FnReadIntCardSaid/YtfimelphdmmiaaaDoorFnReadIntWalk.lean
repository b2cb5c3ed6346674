/- The law FnReadInt: the walk. -/
import Derived.Test.YtfimelphdmmiaaaDoorInt3
import Derived.Test.YtfimelphdmmiaaaDoorLaid
namespace Go.Proofs.YtfimelphdmmiaaaDoor.fnReadInt
open Go Go.RowKit

theorem walk {w : World} {A : Option Addr} {n c : Nat} {xs : List Int} {a1 : Int} (h : Came .u8 w A n c xs) (ha : (Lit.int .i64 a1).wf = true) (hL : laidMetH Tryd.prog [("io.EOF", Rows.laid_io_EOF)] w) :
    Calls Tryd.prog 5 #[.slice A n c, .int .i64 a1] w fun e w' => e = .returned (.bool true) ∧ Below w.heap.size w w' := by
  obtain ⟨a0, hE⟩ := eof_of hL
  have hmost := h.most
  have hcap := h.cap
  clear hL
  by_cases hbig : 2147483647 < n
  · clear hE
    go_enter Tryd.func5, Tryd.ntmps5
    go_wp2
    go_ret
    exact ⟨rfl, Below.refl _ _⟩
  have hbig : n ≤ 2147483647 := by omega
  have hlen := h.len
  have hy := h.byt
  have hr := h.rd
  clear h
  have HE := Lib.hid hE
  have HL := Lib.hid hlen
  have HR := Lib.hid hr
  have HY := Lib.hid hy
  clear hE hlen hr hy
  have hp8 := pfx a1 8 w ha (by omega) (by omega)
  have Hp := Lib.hid hp8
  clear hp8
  go_enter Tryd.func5, Tryd.ntmps5
  go_wp2_with fail
  refine Hp.out.mono ?_
  rintro e w' ⟨⟨p, hp1, hp8, rfl⟩, rfl⟩
  clear Hp
  go_wp2_with fail
  rcases xs with _ | ⟨x, r⟩
  · obtain rfl : n = 0 := HL.out.symm
    have h2 := Lib.hid (ri_nil (A := A) (c := c) (k := p) HE.out)
    refine (pi_nil w A c p).mono ?_
    rintro e w' ⟨rfl, rfl⟩
    go_wp2_with fail
    refine h2.out.mono ?_
    rintro e w1 ⟨rfl, hb⟩
    go_wp2
    go_ret
    exact ⟨rfl, hb⟩
  have hrn : r.length + 1 = n := by have := HL.out; simpa using this
  by_cases hl : low x p < most p
  · have h2 := Lib.hid (ri_small (c := c) HR.out HL.out HY.out (by omega) HE.out hp1 hp8 hl)
    refine (pi_small HR.out HL.out HY.out hp1 hp8 hl).mono ?_
    rintro e w' ⟨rfl, rfl⟩
    obtain ⟨hb0, hb1⟩ := low_bound x hp1 hp8
    obtain ⟨hb2, hb3⟩ := most_cases hp1 hp8
    have heq : ((r.length : Int) == (n : Int) - 1) = true := by rw [beq_iff_eq]; omega
    clear hrn
    go_wp2_with fail
    refine h2.out.mono ?_
    rintro e w1 ⟨rfl, hb⟩
    go_wp2
    go_ret
    exact ⟨rfl, hb⟩
  have hl : low x p = most p := by
    obtain ⟨hb0, hb1⟩ := low_bound x hp1 hp8
    omega
  obtain ⟨hb2, hb3⟩ := most_cases hp1 hp8
  rcases how r with ⟨t, ht8, ht, hC, hT⟩ | ⟨ht9, hC⟩ | ⟨ht9, hC⟩
  · refine (pi_ok HR.out HL.out HY.out (by omega) hp1 hp8 hl ht8 ht hC hT).mono ?_
    rintro e w' ⟨rfl, rfl⟩
    have hpos : 0 ≤ pat r (t + 1) := (pat_bound r (t + 1)).1
    by_cases hfit : most p + pat r (t + 1) < 4611686018427387904
    · have h2 := Lib.hid (ri_ok (c := c) HR.out HL.out HY.out (by omega) HE.out hp1 hp8 hl ht8 ht hC hT (by omega))
      have hl1 : (r.drop (t + 1)).length = n - (t + 2) := by simp; omega
      rw [hl1] at h2
      have hs : (decide (most p + pat r (t + 1) < 4611686018427387904)) = true := by simpa using hfit
      rw [hs]
      have ht2 : t + 2 ≤ n := by omega
      have hN0 : 0 ≤ most p + pat r (t + 1) := by omega
      have hN1 : most p + pat r (t + 1) ≤ 9223372036854775807 := by omega
      obtain ⟨l, Hl⟩ : ∃ l : Nat, Hid (l = n - (t + 2)) := ⟨_, rfl⟩
      rw [← Hl.out] at h2
      have heq : ((l : Int) == (n : Int) - ((t : Int) + 2)) = true := by have := Hl.out; rw [beq_iff_eq]; omega
      generalize most p + pat r (t + 1) = N at *
      clear hrn hl1 hl hs hC hT ht hfit hpos
      go_wp2_with fail
      refine h2.out.mono ?_
      rintro e w1 ⟨rfl, hb⟩
      go_wp2
      go_ret
      exact ⟨rfl, hb⟩
    · have hs : (decide (most p + pat r (t + 1) < 4611686018427387904)) = false := by simpa using hfit
      rw [hs]
      generalize most p + pat r (t + 1) = N at *
      clear hrn hl hs hC hT ht hfit hpos
      go_wp2
      go_ret
      exact ⟨rfl, Below.refl _ _⟩
  · have h2 := Lib.hid (ri_short (c := c) HR.out HL.out HY.out (by omega) HE.out hp1 hp8 hl ht9 hC)
    refine (pi_short HR.out HL.out HY.out (by omega) hp1 hp8 hl ht9 hC).mono ?_
    rintro e w' ⟨rfl, rfl⟩
    clear hrn hl hC
    go_wp2_with fail
    refine h2.out.mono ?_
    rintro e w1 ⟨rfl, hb⟩
    go_wp2
    go_ret
    exact ⟨rfl, hb⟩
  · refine (pi_long HR.out HL.out HY.out (by omega) hp1 hp8 hl ht9 hC).mono ?_
    rintro e w' ⟨rfl, rfl⟩
    clear hrn hl hC
    go_wp2
    go_ret
    exact ⟨rfl, Below.refl _ _⟩
end Go.Proofs.YtfimelphdmmiaaaDoor.fnReadInt
