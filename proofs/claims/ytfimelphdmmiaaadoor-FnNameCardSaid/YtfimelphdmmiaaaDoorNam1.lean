/- Names: the table of token runes; IsTokenRune, validWireHeaderFieldName, ValidName. -/
import Derived.Test.YtfimelphdmmiaaaDoorLaid
import Derived.Laws.RangeString
import Derived.Laws.RangeAny
import Derived.Lib.LaidTab
namespace Go.Proofs.YtfimelphdmmiaaaDoor
open Go Go.RowKit Go.ChangeShapes

/-- The truth values of an array as the row lists it. -/
def boolsOf : DataW Unit → List Bool
  | .agg l => l.map fun
    | .lit (.bool b) => b
    | _ => false
  | _ => []
/-- The table of token runes. -/
def tok : List Bool := boolsOf Rows.laid_semaphorist_pub_httpguts_isTokenTable
theorem tok_laid : (Rows.laid_semaphorist_pub_httpguts_isTokenTable : DataW Unit) = .agg (tok.map fun b => .lit (.bool b)) := by kernel_rfl
theorem tok_len : tok.length = 256 := by kernel_rfl

theorem cells_of_bools {H : Type} {enc : TypeId × Value → H} {P : Program} {w : World} {base : Nat} {sp : Nat → Bool} {held : Bool} {fuel : Nat} {t e : TypeId} {n : Nat} {cs : List Value} {zs : List Bool} {p : List MemPlace}
    (ht : P.underlying t = some (.array n e)) (he : P.underlying e = some .bool) (hce : P.cellsOf e = 1) (hct : P.cellsOf t = n)
    (h : DataW.trod enc P w base sp held fuel t cs = some (.agg (zs.map fun b => .lit (.bool b)), p)) : cs = zs.map Value.bool := by
  cases fuel with
  | zero => simp [DataW.trod] at h
  | succ fuel =>
    simp only [DataW.trod, ht, hce, hct, Nat.mul_one] at h
    split at h
    · rename_i hl
      obtain ⟨xs, hm, hx⟩ := Option.map_eq_some_iff.1 h
      have hxs : xs.map (·.1) = zs.map fun z => (DataW.lit (.bool z) : DataW H) := by
        have := congrArg Prod.fst hx
        simpa using this
      have hxl : xs.length = n := by simpa using Lib.mapM_length hm
      have hzl : zs.length = n := by
        have := congrArg List.length hxs
        simp at this
        omega
      apply List.ext_getElem?
      intro i
      by_cases hi : i < n
      · obtain ⟨b, hb, hf⟩ := Lib.mapM_at hm i i (by simp [hi])
        obtain ⟨z, hc, rfl⟩ := DataW.trod_bool he hf
        have h1 : cs[i]? = some (.bool z) := by
          have := congrArg (·[0]?) hc
          simpa [List.getElem?_take, List.getElem?_drop] using this
        have h2 : (xs.map (·.1))[i]? = some (DataW.lit (.bool z) : DataW H) := by simp [hb]
        rw [hxs] at h2
        simp only [List.getElem?_map, Option.map_eq_some_iff, DataW.lit.injEq, Lit.bool.injEq] at h2
        obtain ⟨z', hz', rfl⟩ := h2
        simp [h1, hz']
      · rw [List.getElem?_eq_none (by omega), List.getElem?_eq_none (by simp; omega)]
    · cases h

theorem nameTok : Tryd.prog.globalNamed "semaphorist/pub/httpguts.isTokenTable" = some 1 := by kernel_rfl
theorem typeTok : (Tryd.prog.globals[1]?).map (·.type) = some 105 := by kernel_rfl
theorem cellBool : Tryd.prog.cellsOf 4 = 1 := by kernel_rfl
theorem cellTok : Tryd.prog.cellsOf 105 = 256 := by kernel_rfl
/-- What the table holds, in a world. -/
def Tok (w : World) : Prop := ∀ i, i < 256 → w.cell? ⟨1, i, none⟩ = some (.bool (tok.getD i false))
theorem tok_of {W : World} (h : laidMetH Tryd.prog [("semaphorist/pub/httpguts.isTokenTable", Rows.laid_semaphorist_pub_httpguts_isTokenTable)] W) : Tok W := by
  rw [MakeChecks.laidMetH_plain _ _ _ (by kernel_rfl)] at h
  obtain ⟨ps, ⟨g', t', cs, fuel, p, q, hg', ht', hvar, hd, _, _⟩, _⟩ := h
  obtain rfl := Option.some.inj (nameTok.symm.trans hg')
  obtain rfl := Option.some.inj (typeTok.symm.trans ht')
  rw [tok_laid] at hd
  have hcs := cells_of_bools Tryd.underlying105 Tryd.underlying4 cellBool cellTok hd
  intro i hi
  have := World.var?_cell nameTok hvar i
  rw [this, ← Array.getElem?_toList, hcs]
  have hl := tok_len
  simp [List.getD, hi, hl]
theorem Tok.below {w w' : World} {B : Nat} (h : Tok w) (hb : Below B w w') (hB : 1 < B) : Tok w' := fun i hi => (hb.cell (p := ⟨1, i, none⟩) hB).trans (h i hi)
theorem Tok.lt {w : World} (h : Tok w) : 1 < w.heap.size := cell_lt (h 0 (by omega))

/-- A byte that a name may hold. -/
def good (b : Nat) : Bool := decide (b < 128) && tok.getD b false && !(decide (65 ≤ b) && decide (b ≤ 90))
/-- Byte i of a string. -/
def byt (s : ByteArray) (i : Nat) : Nat := (s.data.getD i 0).toNat
theorem byt_at {s : ByteArray} {i : Nat} (h : i < s.size) : (s[i]'h).toNat = byt s i := by
  unfold byt
  rw [Array.getD_eq_getD_getElem?, Array.getElem?_eq_getElem h]
  rfl
theorem byt_lt (s : ByteArray) (i : Nat) : byt s i < 256 := (s.data.getD i 0).toNat_lt
theorem decode_big {s : ByteArray} {i : Nat} (h : i < s.size) (hb : ¬ byt s i < 128) : 128 ≤ (Utf8.decode s i).1 ∧ (Utf8.decode s i).1 ≤ 2097152 := by
  have e : (s.get! (i + 0)).toNat = byt s i := by
    rw [← byt_at h]
    show (s.get! i).toNat = _
    simp [ByteArray.get!, getElem!_pos, h]
    rfl
  simp only [Utf8.decode, e]
  repeat' split
  all_goals simp_all [Utf8.runeError]
  all_goals omega

set_option maxRecDepth 100000 in
theorem itr {w : World} {r : Nat} (h : r < 128) (hT : Tok w) :
    Calls Tryd.prog 61 #[.int .i32 r] w fun e w' => e = .returned (.bool (tok.getD r false)) ∧ w = w' := by
  have hc := hT r (by omega)
  generalize tok.getD r false = b at *
  clear hT
  go_enter Tryd.func61, Tryd.ntmps61
  go_wp2
  go_ret
  exact ⟨rfl, rfl⟩
set_option maxRecDepth 100000 in
theorem itr_big {w : World} {r : Nat} (h : ¬ r < 128) (h2 : r ≤ 2097152) :
    Calls Tryd.prog 61 #[.int .i32 r] w fun e w' => e = .returned (.bool false) ∧ w = w' := by
  go_enter Tryd.func61, Tryd.ntmps61
  go_wp2
  go_ret
  exact ⟨rfl, rfl⟩
end Go.Proofs.YtfimelphdmmiaaaDoor
