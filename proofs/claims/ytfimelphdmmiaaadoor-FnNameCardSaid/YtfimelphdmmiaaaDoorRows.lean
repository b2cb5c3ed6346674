/-
  NARROWER THAN 'FOR EVERY INPUT', by the rows' own cells (each row's printed sentence says how): FnName: laid · FnReadVarint: laid · FnReadInt: laid · FnInt: laid · FnCut: laid · FnVarint: laid · FnFrame: laid · FnReserved: laid · FnSkip: laid · FnSettings: laid.
  DERIVED. THE GIVEN ROWS OF THIS SEAT. 10 by the template 'for every input the law returns true; each argument reads behind the call as it read before'; 0 by the template 'total and deterministic' (their statements: YtfimelphdmmiaaaDoorTotals.lean).
  GIVEN WITH THE SEED: the statements are not yours to turn. If you find one false, say at which input.
  Laid BY PROGRAM, IN A SANDBOX (cutbox-rows.mjs): the forced cells as the released guide's own fill.sh prints them over the translation 182158319e1a3fb0… (all of the seat's roots in one cut). By AI agents, Wed Nov 11 2026. No macro, syntax, notation, axiom, sorry.
-/
import Derived.Test.YtfimelphdmmiaaaDoorChecked
import GoSem.Claim
import GoSem.ClaimJoined
import GoSem.ClaimMapViews
import Derived.JoinedTies
import Derived.KernelRfl
namespace Go.Proofs.YtfimelphdmmiaaaDoor
/- THE CELL 'sum', in the pinned program and in every row, IS THE sha256 OF THE DUMP (.gsa) THAT YtfimelphdmmiaaaDoorProg.lean LOADS. Nothing in Lean hashes anything: it is a label: what it is worth is what the hold of that sum in a sandbox is worth. -/
noncomputable def Tryd.pinned : Pinned := { name := "ytfimelphdmmiaaadoor", sum := "182158319e1a3fb0c70283581be600622cd106007018caf9f60958a1374b8926", checked := Tryd.checked }
namespace Rows
def none {H : Type} : Left H := { results := [], args := [] }

/- WHAT THE LISTED PACKAGE-LEVEL VARIABLES READ AS WHEN THE CALL BEGINS. Each datum BY PROGRAM (the guide's laid-datum.mjs) off the statement by which the dump's own 'gosem.cut.vars' lays the variable. In a bare row this is a premise. The card (YtfimelphdmmiaaaDoorCards.lean) ties it to the program's text. -/
def laid_semaphorist_pub_httpguts_isTokenTable {H : Type} : DataW H := .agg [.lit (.bool false), .lit (.bool false), .lit (.bool false), .lit (.bool false), .lit (.bool false), .lit (.bool false), .lit (.bool false), .lit (.bool false), .lit (.bool false), .lit (.bool false), .lit (.bool false), .lit (.bool false), .lit (.bool false), .lit (.bool false), .lit (.bool false), .lit (.bool false), .lit (.bool false), .lit (.bool false), .lit (.bool false), .lit (.bool false), .lit (.bool false), .lit (.bool false), .lit (.bool false), .lit (.bool false), .lit (.bool false), .lit (.bool false), .lit (.bool false), .lit (.bool false), .lit (.bool false), .lit (.bool false), .lit (.bool false), .lit (.bool false), .lit (.bool false), .lit (.bool true), .lit (.bool false), .lit (.bool true), .lit (.bool true), .lit (.bool true), .lit (.bool true), .lit (.bool true), .lit (.bool false), .lit (.bool false), .lit (.bool true), .lit (.bool true), .lit (.bool false), .lit (.bool true), .lit (.bool true), .lit (.bool false), .lit (.bool true), .lit (.bool true), .lit (.bool true), .lit (.bool true), .lit (.bool true), .lit (.bool true), .lit (.bool true), .lit (.bool true), .lit (.bool true), .lit (.bool true), .lit (.bool false), .lit (.bool false), .lit (.bool false), .lit (.bool false), .lit (.bool false), .lit (.bool false), .lit (.bool false), .lit (.bool true), .lit (.bool true), .lit (.bool true), .lit (.bool true), .lit (.bool true), .lit (.bool true), .lit (.bool true), .lit (.bool true), .lit (.bool true), .lit (.bool true), .lit (.bool true), .lit (.bool true), .lit (.bool true), .lit (.bool true), .lit (.bool true), .lit (.bool true), .lit (.bool true), .lit (.bool true), .lit (.bool true), .lit (.bool true), .lit (.bool true), .lit (.bool true), .lit (.bool true), .lit (.bool true), .lit (.bool true), .lit (.bool true), .lit (.bool false), .lit (.bool false), .lit (.bool false), .lit (.bool true), .lit (.bool true), .lit (.bool true), .lit (.bool true), .lit (.bool true), .lit (.bool true), .lit (.bool true), .lit (.bool true), .lit (.bool true), .lit (.bool true), .lit (.bool true), .lit (.bool true), .lit (.bool true), .lit (.bool true), .lit (.bool true), .lit (.bool true), .lit (.bool true), .lit (.bool true), .lit (.bool true), .lit (.bool true), .lit (.bool true), .lit (.bool true), .lit (.bool true), .lit (.bool true), .lit (.bool true), .lit (.bool true), .lit (.bool true), .lit (.bool true), .lit (.bool true), .lit (.bool false), .lit (.bool true), .lit (.bool false), .lit (.bool true), .lit (.bool false), .lit (.bool false), .lit (.bool false), .lit (.bool false), .lit (.bool false), .lit (.bool false), .lit (.bool false), .lit (.bool false), .lit (.bool false), .lit (.bool false), .lit (.bool false), .lit (.bool false), .lit (.bool false), .lit (.bool false), .lit (.bool false), .lit (.bool false), .lit (.bool false), .lit (.bool false), .lit (.bool false), .lit (.bool false), .lit (.bool false), .lit (.bool false), .lit (.bool false), .lit (.bool false), .lit (.bool false), .lit (.bool false), .lit (.bool false), .lit (.bool false), .lit (.bool false), .lit (.bool false), .lit (.bool false), .lit (.bool false), .lit (.bool false), .lit (.bool false), .lit (.bool false), .lit (.bool false), .lit (.bool false), .lit (.bool false), .lit (.bool false), .lit (.bool false), .lit (.bool false), .lit (.bool false), .lit (.bool false), .lit (.bool false), .lit (.bool false), .lit (.bool false), .lit (.bool false), .lit (.bool false), .lit (.bool false), .lit (.bool false), .lit (.bool false), .lit (.bool false), .lit (.bool false), .lit (.bool false), .lit (.bool false), .lit (.bool false), .lit (.bool false), .lit (.bool false), .lit (.bool false), .lit (.bool false), .lit (.bool false), .lit (.bool false), .lit (.bool false), .lit (.bool false), .lit (.bool false), .lit (.bool false), .lit (.bool false), .lit (.bool false), .lit (.bool false), .lit (.bool false), .lit (.bool false), .lit (.bool false), .lit (.bool false), .lit (.bool false), .lit (.bool false), .lit (.bool false), .lit (.bool false), .lit (.bool false), .lit (.bool false), .lit (.bool false), .lit (.bool false), .lit (.bool false), .lit (.bool false), .lit (.bool false), .lit (.bool false), .lit (.bool false), .lit (.bool false), .lit (.bool false), .lit (.bool false), .lit (.bool false), .lit (.bool false), .lit (.bool false), .lit (.bool false), .lit (.bool false), .lit (.bool false), .lit (.bool false), .lit (.bool false), .lit (.bool false), .lit (.bool false), .lit (.bool false), .lit (.bool false), .lit (.bool false), .lit (.bool false), .lit (.bool false), .lit (.bool false), .lit (.bool false), .lit (.bool false), .lit (.bool false), .lit (.bool false), .lit (.bool false), .lit (.bool false), .lit (.bool false), .lit (.bool false), .lit (.bool false), .lit (.bool false), .lit (.bool false), .lit (.bool false), .lit (.bool false), .lit (.bool false), .lit (.bool false), .lit (.bool false), .lit (.bool false), .lit (.bool false), .lit (.bool false), .lit (.bool false), .lit (.bool false), .lit (.bool false), .lit (.bool false), .lit (.bool false)]
def laid_io_EOF {H : Type} : DataW H := .iface "*errors.errorString" (.ptr (.agg [.lit (.string [69, 79, 70])]))
def laid_io_ErrShortBuffer {H : Type} : DataW H := .iface "*errors.errorString" (.ptr (.agg [.lit (.string [115, 104, 111, 114, 116, 32, 98, 117, 102, 102, 101, 114])]))
def laid_io_ErrUnexpectedEOF {H : Type} : DataW H := .iface "*errors.errorString" (.ptr (.agg [.lit (.string [117, 110, 101, 120, 112, 101, 99, 116, 101, 100, 32, 69, 79, 70])]))

/-- 'laws.FnName': WHATEVER THE INPUT: true; the input reads as it did. -/
def fnNameSpec : ChangeSpec := { name := "fnName", fn := fun _ => fun
  | [d] => { results := [.lit (.bool true)], args := [d] }
  | _ => none }
def fnNameRow : OpenClaim := { program := "ytfimelphdmmiaaadoor", sum := "182158319e1a3fb0c70283581be600622cd106007018caf9f60958a1374b8926", func := "semaphorist/laws.FnName", spec := "fnName", named := ["semaphorist/pub/httpguts.isTokenTable"], apart := false, laid := [("semaphorist/pub/httpguts.isTokenTable", laid_semaphorist_pub_httpguts_isTokenTable)] }
def FnNameSaid : Prop := fnNameRow.holds Tryd.pinned (OpenSpec.ofChange fnNameSpec)

/-- ITS FALSE NEIGHBOUR: 'it returns false'. Refute it at one input. -/
def fnNameWrong : ChangeSpec := { name := "fnName", fn := fun _ => fun
  | [d] => { results := [.lit (.bool false)], args := [d] }
  | _ => none }
def FnNameWrongFalsely : Prop := fnNameRow.holds Tryd.pinned (OpenSpec.ofChange fnNameWrong)

/-- 'laws.FnReadVarint': WHATEVER THE INPUT: true; the input reads as it did. -/
def fnReadVarintSpec : ChangeSpec := { name := "fnReadVarint", fn := fun _ => fun
  | [d] => { results := [.lit (.bool true)], args := [d] }
  | _ => none }
def fnReadVarintRow : OpenClaim := { program := "ytfimelphdmmiaaadoor", sum := "182158319e1a3fb0c70283581be600622cd106007018caf9f60958a1374b8926", func := "semaphorist/laws.FnReadVarint", spec := "fnReadVarint", named := ["io.EOF"], apart := false, laid := [("io.EOF", laid_io_EOF)] }
def FnReadVarintSaid : Prop := fnReadVarintRow.holds Tryd.pinned (OpenSpec.ofChange fnReadVarintSpec)

/-- ITS FALSE NEIGHBOUR: 'it returns false'. Refute it at one input. -/
def fnReadVarintWrong : ChangeSpec := { name := "fnReadVarint", fn := fun _ => fun
  | [d] => { results := [.lit (.bool false)], args := [d] }
  | _ => none }
def FnReadVarintWrongFalsely : Prop := fnReadVarintRow.holds Tryd.pinned (OpenSpec.ofChange fnReadVarintWrong)

/-- 'laws.FnReadInt': WHATEVER THE INPUT: true; the input reads as it did. -/
def fnReadIntSpec : ChangeSpec := { name := "fnReadInt", fn := fun _ => fun
  | [d1, d2] => { results := [.lit (.bool true)], args := [d1, d2] }
  | _ => none }
def fnReadIntRow : OpenClaim := { program := "ytfimelphdmmiaaadoor", sum := "182158319e1a3fb0c70283581be600622cd106007018caf9f60958a1374b8926", func := "semaphorist/laws.FnReadInt", spec := "fnReadInt", named := ["io.EOF"], apart := false, laid := [("io.EOF", laid_io_EOF)] }
def FnReadIntSaid : Prop := fnReadIntRow.holds Tryd.pinned (OpenSpec.ofChange fnReadIntSpec)

/-- ITS FALSE NEIGHBOUR: 'it returns false'. Refute it at one input. -/
def fnReadIntWrong : ChangeSpec := { name := "fnReadInt", fn := fun _ => fun
  | [d1, d2] => { results := [.lit (.bool false)], args := [d1, d2] }
  | _ => none }
def FnReadIntWrongFalsely : Prop := fnReadIntRow.holds Tryd.pinned (OpenSpec.ofChange fnReadIntWrong)

/-- 'laws.FnInt': WHATEVER THE INPUT: true; the input reads as it did. -/
def fnIntSpec : ChangeSpec := { name := "fnInt", fn := fun _ => fun
  | [d1, d2, d3, d4] => { results := [.lit (.bool true)], args := [d1, d2, d3, d4] }
  | _ => none }
def fnIntRow : OpenClaim := { program := "ytfimelphdmmiaaadoor", sum := "182158319e1a3fb0c70283581be600622cd106007018caf9f60958a1374b8926", func := "semaphorist/laws.FnInt", spec := "fnInt", named := ["io.EOF"], apart := false, laid := [("io.EOF", laid_io_EOF)] }
def FnIntSaid : Prop := fnIntRow.holds Tryd.pinned (OpenSpec.ofChange fnIntSpec)

/-- ITS FALSE NEIGHBOUR: 'it returns false'. Refute it at one input. -/
def fnIntWrong : ChangeSpec := { name := "fnInt", fn := fun _ => fun
  | [d1, d2, d3, d4] => { results := [.lit (.bool false)], args := [d1, d2, d3, d4] }
  | _ => none }
def FnIntWrongFalsely : Prop := fnIntRow.holds Tryd.pinned (OpenSpec.ofChange fnIntWrong)

/-- 'laws.FnCut': WHATEVER THE INPUT: true; the input reads as it did. -/
def fnCutSpec : ChangeSpec := { name := "fnCut", fn := fun _ => fun
  | [d1, d2, d3] => { results := [.lit (.bool true)], args := [d1, d2, d3] }
  | _ => none }
def fnCutRow : OpenClaim := { program := "ytfimelphdmmiaaadoor", sum := "182158319e1a3fb0c70283581be600622cd106007018caf9f60958a1374b8926", func := "semaphorist/laws.FnCut", spec := "fnCut", unfollowed := true, recurses := true, named := ["io.EOF", "io.ErrShortBuffer", "io.ErrUnexpectedEOF"], apart := false, laid := [("io.ErrShortBuffer", laid_io_ErrShortBuffer), ("io.EOF", laid_io_EOF), ("io.ErrUnexpectedEOF", laid_io_ErrUnexpectedEOF)] }
def FnCutSaid : Prop := fnCutRow.holds Tryd.pinned (OpenSpec.ofChange fnCutSpec)

/-- ITS FALSE NEIGHBOUR: 'it returns false'. Refute it at one input. -/
def fnCutWrong : ChangeSpec := { name := "fnCut", fn := fun _ => fun
  | [d1, d2, d3] => { results := [.lit (.bool false)], args := [d1, d2, d3] }
  | _ => none }
def FnCutWrongFalsely : Prop := fnCutRow.holds Tryd.pinned (OpenSpec.ofChange fnCutWrong)

/-- 'laws.FnVarint': WHATEVER THE INPUT: true; the input reads as it did. -/
def fnVarintSpec : ChangeSpec := { name := "fnVarint", fn := fun _ => fun
  | [d1, d2, d3] => { results := [.lit (.bool true)], args := [d1, d2, d3] }
  | _ => none }
def fnVarintRow : OpenClaim := { program := "ytfimelphdmmiaaadoor", sum := "182158319e1a3fb0c70283581be600622cd106007018caf9f60958a1374b8926", func := "semaphorist/laws.FnVarint", spec := "fnVarint", named := ["io.EOF"], apart := false, laid := [("io.EOF", laid_io_EOF)] }
def FnVarintSaid : Prop := fnVarintRow.holds Tryd.pinned (OpenSpec.ofChange fnVarintSpec)

/-- ITS FALSE NEIGHBOUR: 'it returns false'. Refute it at one input. -/
def fnVarintWrong : ChangeSpec := { name := "fnVarint", fn := fun _ => fun
  | [d1, d2, d3] => { results := [.lit (.bool false)], args := [d1, d2, d3] }
  | _ => none }
def FnVarintWrongFalsely : Prop := fnVarintRow.holds Tryd.pinned (OpenSpec.ofChange fnVarintWrong)

/-- 'laws.FnFrame': WHATEVER THE INPUT: true; the input reads as it did. -/
def fnFrameSpec : ChangeSpec := { name := "fnFrame", fn := fun _ => fun
  | [d1, d2, d3, d4] => { results := [.lit (.bool true)], args := [d1, d2, d3, d4] }
  | _ => none }
def fnFrameRow : OpenClaim := { program := "ytfimelphdmmiaaadoor", sum := "182158319e1a3fb0c70283581be600622cd106007018caf9f60958a1374b8926", func := "semaphorist/laws.FnFrame", spec := "fnFrame", unfollowed := true, recurses := true, named := ["io.EOF", "io.ErrShortBuffer", "io.ErrUnexpectedEOF"], apart := false, laid := [("io.ErrShortBuffer", laid_io_ErrShortBuffer), ("io.EOF", laid_io_EOF), ("io.ErrUnexpectedEOF", laid_io_ErrUnexpectedEOF)] }
def FnFrameSaid : Prop := fnFrameRow.holds Tryd.pinned (OpenSpec.ofChange fnFrameSpec)

/-- ITS FALSE NEIGHBOUR: 'it returns false'. Refute it at one input. -/
def fnFrameWrong : ChangeSpec := { name := "fnFrame", fn := fun _ => fun
  | [d1, d2, d3, d4] => { results := [.lit (.bool false)], args := [d1, d2, d3, d4] }
  | _ => none }
def FnFrameWrongFalsely : Prop := fnFrameRow.holds Tryd.pinned (OpenSpec.ofChange fnFrameWrong)

/-- 'laws.FnReserved': WHATEVER THE INPUT: true; the input reads as it did. -/
def fnReservedSpec : ChangeSpec := { name := "fnReserved", fn := fun _ => fun
  | [d1, d2, d3] => { results := [.lit (.bool true)], args := [d1, d2, d3] }
  | _ => none }
def fnReservedRow : OpenClaim := { program := "ytfimelphdmmiaaadoor", sum := "182158319e1a3fb0c70283581be600622cd106007018caf9f60958a1374b8926", func := "semaphorist/laws.FnReserved", spec := "fnReserved", unfollowed := true, recurses := true, named := ["io.EOF"], apart := false, laid := [("io.EOF", laid_io_EOF)] }
def FnReservedSaid : Prop := fnReservedRow.holds Tryd.pinned (OpenSpec.ofChange fnReservedSpec)

/-- ITS FALSE NEIGHBOUR: 'it returns false'. Refute it at one input. -/
def fnReservedWrong : ChangeSpec := { name := "fnReserved", fn := fun _ => fun
  | [d1, d2, d3] => { results := [.lit (.bool false)], args := [d1, d2, d3] }
  | _ => none }
def FnReservedWrongFalsely : Prop := fnReservedRow.holds Tryd.pinned (OpenSpec.ofChange fnReservedWrong)

/-- 'laws.FnSkip': WHATEVER THE INPUT: true; the input reads as it did. -/
def fnSkipSpec : ChangeSpec := { name := "fnSkip", fn := fun _ => fun
  | [d1, d2, d3] => { results := [.lit (.bool true)], args := [d1, d2, d3] }
  | _ => none }
def fnSkipRow : OpenClaim := { program := "ytfimelphdmmiaaadoor", sum := "182158319e1a3fb0c70283581be600622cd106007018caf9f60958a1374b8926", func := "semaphorist/laws.FnSkip", spec := "fnSkip", unfollowed := true, recurses := true, named := ["io.EOF"], apart := false, laid := [("io.EOF", laid_io_EOF)] }
def FnSkipSaid : Prop := fnSkipRow.holds Tryd.pinned (OpenSpec.ofChange fnSkipSpec)

/-- ITS FALSE NEIGHBOUR: 'it returns false'. Refute it at one input. -/
def fnSkipWrong : ChangeSpec := { name := "fnSkip", fn := fun _ => fun
  | [d1, d2, d3] => { results := [.lit (.bool false)], args := [d1, d2, d3] }
  | _ => none }
def FnSkipWrongFalsely : Prop := fnSkipRow.holds Tryd.pinned (OpenSpec.ofChange fnSkipWrong)

/-- 'laws.FnSettings': WHATEVER THE INPUT: true; the input reads as it did. -/
def fnSettingsSpec : ChangeSpec := { name := "fnSettings", fn := fun _ => fun
  | [d1, d2] => { results := [.lit (.bool true)], args := [d1, d2] }
  | _ => none }
def fnSettingsRow : OpenClaim := { program := "ytfimelphdmmiaaadoor", sum := "182158319e1a3fb0c70283581be600622cd106007018caf9f60958a1374b8926", func := "semaphorist/laws.FnSettings", spec := "fnSettings", unfollowed := true, recurses := true, named := ["io.EOF"], apart := false, laid := [("io.EOF", laid_io_EOF)] }
def FnSettingsSaid : Prop := fnSettingsRow.holds Tryd.pinned (OpenSpec.ofChange fnSettingsSpec)

/-- ITS FALSE NEIGHBOUR: 'it returns false'. Refute it at one input. -/
def fnSettingsWrong : ChangeSpec := { name := "fnSettings", fn := fun _ => fun
  | [d1, d2] => { results := [.lit (.bool false)], args := [d1, d2] }
  | _ => none }
def FnSettingsWrongFalsely : Prop := fnSettingsRow.holds Tryd.pinned (OpenSpec.ofChange fnSettingsWrong)

/- THE SECOND FORM. 'bulk': how many values and letters a reading holds, each counted each time it is reached (what is shared counts as often as it is met; a slice's spare places count too). A statement '..UptoSaid' is the law's where the arguments, and the package variables that the reading takes, are together of bulk at most 1048576: NARROWER than '..Said'. Prove '..Said' where nothing that the law and all that it calls make is longer than what came in: it says more and counts as full. Else prove '..UptoSaid'. A law counts once. -/
mutual
def uptoBulk {H : Type} : DataW H → Nat
  | .lit (.string bytes) => bytes.length + 1
  | .lit _ => 1
  | .nil => 1
  | .ptr d => uptoBulk d + 1
  | .slice elems spare => uptoBulkAll elems + uptoBulkAll spare + 1
  | .agg parts => uptoBulkAll parts + 1
  | .iface _ d => uptoBulk d + 1
  | .map entries => uptoBulkEntries entries + 1
  | .held _ => 1
def uptoBulkAll {H : Type} : List (DataW H) → Nat
  | [] => 0
  | d :: r => uptoBulk d + uptoBulkAll r
def uptoBulkEntries {H : Type} : List (Lit × DataW H) → Nat
  | [] => 0
  | x :: r => uptoBulkEntry x + uptoBulkEntries r
def uptoBulkEntry {H : Type} : Lit × DataW H → Nat
  | (.string bytes, d) => bytes.length + uptoBulk d + 1
  | (_, d) => uptoBulk d + 1
 end
def uptoSmall : (H : Type) → List (DataW H) → Bool := fun _ ds => decide (uptoBulkAll ds ≤ 1048576)
def OpenSpec.upto (s : _root_.Go.ChangeSpec) : _root_.Go.OpenSpec := { _root_.Go.OpenSpec.ofChange s with cond := some uptoSmall }

/-- 'laws.FnName', WHERE WHAT IT READS IS OF BULK AT MOST 1048576: true; the input reads as it did. -/
def fnNameUptoRow : OpenClaim := { program := "ytfimelphdmmiaaadoor", sum := "182158319e1a3fb0c70283581be600622cd106007018caf9f60958a1374b8926", func := "semaphorist/laws.FnName", spec := "fnName", named := ["semaphorist/pub/httpguts.isTokenTable"], apart := false, laid := [("semaphorist/pub/httpguts.isTokenTable", laid_semaphorist_pub_httpguts_isTokenTable)], narrowed := true }
def FnNameUptoSaid : Prop := fnNameUptoRow.holds Tryd.pinned (OpenSpec.upto fnNameSpec)

/-- 'laws.FnReadVarint', WHERE WHAT IT READS IS OF BULK AT MOST 1048576: true; the input reads as it did. -/
def fnReadVarintUptoRow : OpenClaim := { program := "ytfimelphdmmiaaadoor", sum := "182158319e1a3fb0c70283581be600622cd106007018caf9f60958a1374b8926", func := "semaphorist/laws.FnReadVarint", spec := "fnReadVarint", named := ["io.EOF"], apart := false, laid := [("io.EOF", laid_io_EOF)], narrowed := true }
def FnReadVarintUptoSaid : Prop := fnReadVarintUptoRow.holds Tryd.pinned (OpenSpec.upto fnReadVarintSpec)

/-- 'laws.FnReadInt', WHERE WHAT IT READS IS OF BULK AT MOST 1048576: true; the input reads as it did. -/
def fnReadIntUptoRow : OpenClaim := { program := "ytfimelphdmmiaaadoor", sum := "182158319e1a3fb0c70283581be600622cd106007018caf9f60958a1374b8926", func := "semaphorist/laws.FnReadInt", spec := "fnReadInt", named := ["io.EOF"], apart := false, laid := [("io.EOF", laid_io_EOF)], narrowed := true }
def FnReadIntUptoSaid : Prop := fnReadIntUptoRow.holds Tryd.pinned (OpenSpec.upto fnReadIntSpec)

/-- 'laws.FnInt', WHERE WHAT IT READS IS OF BULK AT MOST 1048576: true; the input reads as it did. -/
def fnIntUptoRow : OpenClaim := { program := "ytfimelphdmmiaaadoor", sum := "182158319e1a3fb0c70283581be600622cd106007018caf9f60958a1374b8926", func := "semaphorist/laws.FnInt", spec := "fnInt", named := ["io.EOF"], apart := false, laid := [("io.EOF", laid_io_EOF)], narrowed := true }
def FnIntUptoSaid : Prop := fnIntUptoRow.holds Tryd.pinned (OpenSpec.upto fnIntSpec)

/-- 'laws.FnCut', WHERE WHAT IT READS IS OF BULK AT MOST 1048576: true; the input reads as it did. -/
def fnCutUptoRow : OpenClaim := { program := "ytfimelphdmmiaaadoor", sum := "182158319e1a3fb0c70283581be600622cd106007018caf9f60958a1374b8926", func := "semaphorist/laws.FnCut", spec := "fnCut", unfollowed := true, recurses := true, named := ["io.EOF", "io.ErrShortBuffer", "io.ErrUnexpectedEOF"], apart := false, laid := [("io.ErrShortBuffer", laid_io_ErrShortBuffer), ("io.EOF", laid_io_EOF), ("io.ErrUnexpectedEOF", laid_io_ErrUnexpectedEOF)], narrowed := true }
def FnCutUptoSaid : Prop := fnCutUptoRow.holds Tryd.pinned (OpenSpec.upto fnCutSpec)

/-- 'laws.FnVarint', WHERE WHAT IT READS IS OF BULK AT MOST 1048576: true; the input reads as it did. -/
def fnVarintUptoRow : OpenClaim := { program := "ytfimelphdmmiaaadoor", sum := "182158319e1a3fb0c70283581be600622cd106007018caf9f60958a1374b8926", func := "semaphorist/laws.FnVarint", spec := "fnVarint", named := ["io.EOF"], apart := false, laid := [("io.EOF", laid_io_EOF)], narrowed := true }
def FnVarintUptoSaid : Prop := fnVarintUptoRow.holds Tryd.pinned (OpenSpec.upto fnVarintSpec)

/-- 'laws.FnFrame', WHERE WHAT IT READS IS OF BULK AT MOST 1048576: true; the input reads as it did. -/
def fnFrameUptoRow : OpenClaim := { program := "ytfimelphdmmiaaadoor", sum := "182158319e1a3fb0c70283581be600622cd106007018caf9f60958a1374b8926", func := "semaphorist/laws.FnFrame", spec := "fnFrame", unfollowed := true, recurses := true, named := ["io.EOF", "io.ErrShortBuffer", "io.ErrUnexpectedEOF"], apart := false, laid := [("io.ErrShortBuffer", laid_io_ErrShortBuffer), ("io.EOF", laid_io_EOF), ("io.ErrUnexpectedEOF", laid_io_ErrUnexpectedEOF)], narrowed := true }
def FnFrameUptoSaid : Prop := fnFrameUptoRow.holds Tryd.pinned (OpenSpec.upto fnFrameSpec)

/-- 'laws.FnReserved', WHERE WHAT IT READS IS OF BULK AT MOST 1048576: true; the input reads as it did. -/
def fnReservedUptoRow : OpenClaim := { program := "ytfimelphdmmiaaadoor", sum := "182158319e1a3fb0c70283581be600622cd106007018caf9f60958a1374b8926", func := "semaphorist/laws.FnReserved", spec := "fnReserved", unfollowed := true, recurses := true, named := ["io.EOF"], apart := false, laid := [("io.EOF", laid_io_EOF)], narrowed := true }
def FnReservedUptoSaid : Prop := fnReservedUptoRow.holds Tryd.pinned (OpenSpec.upto fnReservedSpec)

/-- 'laws.FnSkip', WHERE WHAT IT READS IS OF BULK AT MOST 1048576: true; the input reads as it did. -/
def fnSkipUptoRow : OpenClaim := { program := "ytfimelphdmmiaaadoor", sum := "182158319e1a3fb0c70283581be600622cd106007018caf9f60958a1374b8926", func := "semaphorist/laws.FnSkip", spec := "fnSkip", unfollowed := true, recurses := true, named := ["io.EOF"], apart := false, laid := [("io.EOF", laid_io_EOF)], narrowed := true }
def FnSkipUptoSaid : Prop := fnSkipUptoRow.holds Tryd.pinned (OpenSpec.upto fnSkipSpec)

/-- 'laws.FnSettings', WHERE WHAT IT READS IS OF BULK AT MOST 1048576: true; the input reads as it did. -/
def fnSettingsUptoRow : OpenClaim := { program := "ytfimelphdmmiaaadoor", sum := "182158319e1a3fb0c70283581be600622cd106007018caf9f60958a1374b8926", func := "semaphorist/laws.FnSettings", spec := "fnSettings", unfollowed := true, recurses := true, named := ["io.EOF"], apart := false, laid := [("io.EOF", laid_io_EOF)], narrowed := true }
def FnSettingsUptoSaid : Prop := fnSettingsUptoRow.holds Tryd.pinned (OpenSpec.upto fnSettingsSpec)

end Rows
end Go.Proofs.YtfimelphdmmiaaaDoor
