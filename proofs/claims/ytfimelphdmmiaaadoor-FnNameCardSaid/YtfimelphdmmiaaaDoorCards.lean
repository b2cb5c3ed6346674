/-
  DERIVED. GIVEN WITH THE SEED: THE CARDS: each row of YtfimelphdmmiaaaDoorRows.lean that lists a variable, with what it lists TIED to the program's text (the seventh form; the later family's looks); each row that meets fmt, with fmt's text TOLD by the authors' own Lean function (tested against real Go, not proved from fmt's source: count such statements apart). THE CARD IS WHAT COUNTS. Prove the row's statement (the work); the ties are given (YtfimelphdmmiaaaDoorTie.lean); close each card by the builder's one call (the guide's Derived/Test/ToyasCard.lean, 'card_holds'). Laid BY PROGRAM, IN A SANDBOX (cutbox-door.mjs). By AI agents, Wed Nov 11 2026. No macro, syntax, notation, axiom, sorry.
-/
import Derived.Test.YtfimelphdmmiaaaDoorRows
import GoSem.ClaimSeven
namespace Go.Proofs.YtfimelphdmmiaaaDoor
namespace Rows

/-- THE TIED CARD OF 'laws.FnName'. -/
def fnNameCard : Claim7 := { stood := { row := fnNameRow, standIns := [], harness := (true, "3e18275cf37e0da7f15b49157773808ba3788afcca52cf3f06bb42b5c31c0021"), looks := true }, kinds := [], alts := [], laidByText := true, laidKinds := [.data], laidTests := true, laidLooks := .later }
def FnNameCardSaid : Prop := Claim7.holds Tryd.pinned (.plain (OpenSpec.ofChange fnNameSpec)) fnNameCard

/-- THE TIED CARD OF 'laws.FnReadVarint'. -/
def fnReadVarintCard : Claim7 := { stood := { row := fnReadVarintRow, standIns := [], harness := (true, "3e18275cf37e0da7f15b49157773808ba3788afcca52cf3f06bb42b5c31c0021"), looks := true }, kinds := [], alts := [], laidByText := true, laidKinds := [.sentinel], laidTests := true, laidLooks := .later }
def FnReadVarintCardSaid : Prop := Claim7.holds Tryd.pinned (.plain (OpenSpec.ofChange fnReadVarintSpec)) fnReadVarintCard

/-- THE TIED CARD OF 'laws.FnReadInt'. -/
def fnReadIntCard : Claim7 := { stood := { row := fnReadIntRow, standIns := [], harness := (true, "3e18275cf37e0da7f15b49157773808ba3788afcca52cf3f06bb42b5c31c0021"), looks := true }, kinds := [], alts := [], laidByText := true, laidKinds := [.sentinel], laidTests := true, laidLooks := .later }
def FnReadIntCardSaid : Prop := Claim7.holds Tryd.pinned (.plain (OpenSpec.ofChange fnReadIntSpec)) fnReadIntCard

/-- THE TIED CARD OF 'laws.FnInt'. -/
def fnIntCard : Claim7 := { stood := { row := fnIntRow, standIns := [], harness := (true, "3e18275cf37e0da7f15b49157773808ba3788afcca52cf3f06bb42b5c31c0021"), looks := true }, kinds := [], alts := [], laidByText := true, laidKinds := [.sentinel], laidTests := true, laidLooks := .later }
def FnIntCardSaid : Prop := Claim7.holds Tryd.pinned (.plain (OpenSpec.ofChange fnIntSpec)) fnIntCard

/-- THE TIED CARD OF 'laws.FnCut'. -/
def fnCutCard : Claim7 := { stood := { row := fnCutRow, standIns := [], harness := (true, "3e18275cf37e0da7f15b49157773808ba3788afcca52cf3f06bb42b5c31c0021"), looks := true }, kinds := [], alts := [], laidByText := true, laidKinds := [.sentinel, .sentinel, .sentinel], laidTests := true, laidLooks := .later }
def FnCutCardSaid : Prop := Claim7.holds Tryd.pinned (.plain (OpenSpec.ofChange fnCutSpec)) fnCutCard

/-- THE TIED CARD OF 'laws.FnVarint'. -/
def fnVarintCard : Claim7 := { stood := { row := fnVarintRow, standIns := [], harness := (true, "3e18275cf37e0da7f15b49157773808ba3788afcca52cf3f06bb42b5c31c0021"), looks := true }, kinds := [], alts := [], laidByText := true, laidKinds := [.sentinel], laidTests := true, laidLooks := .later }
def FnVarintCardSaid : Prop := Claim7.holds Tryd.pinned (.plain (OpenSpec.ofChange fnVarintSpec)) fnVarintCard

/-- THE TIED CARD OF 'laws.FnFrame'. -/
def fnFrameCard : Claim7 := { stood := { row := fnFrameRow, standIns := [], harness := (true, "3e18275cf37e0da7f15b49157773808ba3788afcca52cf3f06bb42b5c31c0021"), looks := true }, kinds := [], alts := [], laidByText := true, laidKinds := [.sentinel, .sentinel, .sentinel], laidTests := true, laidLooks := .later }
def FnFrameCardSaid : Prop := Claim7.holds Tryd.pinned (.plain (OpenSpec.ofChange fnFrameSpec)) fnFrameCard

/-- THE TIED CARD OF 'laws.FnReserved'. -/
def fnReservedCard : Claim7 := { stood := { row := fnReservedRow, standIns := [], harness := (true, "3e18275cf37e0da7f15b49157773808ba3788afcca52cf3f06bb42b5c31c0021"), looks := true }, kinds := [], alts := [], laidByText := true, laidKinds := [.sentinel], laidTests := true, laidLooks := .later }
def FnReservedCardSaid : Prop := Claim7.holds Tryd.pinned (.plain (OpenSpec.ofChange fnReservedSpec)) fnReservedCard

/-- THE TIED CARD OF 'laws.FnSkip'. -/
def fnSkipCard : Claim7 := { stood := { row := fnSkipRow, standIns := [], harness := (true, "3e18275cf37e0da7f15b49157773808ba3788afcca52cf3f06bb42b5c31c0021"), looks := true }, kinds := [], alts := [], laidByText := true, laidKinds := [.sentinel], laidTests := true, laidLooks := .later }
def FnSkipCardSaid : Prop := Claim7.holds Tryd.pinned (.plain (OpenSpec.ofChange fnSkipSpec)) fnSkipCard

/-- THE TIED CARD OF 'laws.FnSettings'. -/
def fnSettingsCard : Claim7 := { stood := { row := fnSettingsRow, standIns := [], harness := (true, "3e18275cf37e0da7f15b49157773808ba3788afcca52cf3f06bb42b5c31c0021"), looks := true }, kinds := [], alts := [], laidByText := true, laidKinds := [.sentinel], laidTests := true, laidLooks := .later }
def FnSettingsCardSaid : Prop := Claim7.holds Tryd.pinned (.plain (OpenSpec.ofChange fnSettingsSpec)) fnSettingsCard

/-- THE SECOND FORM's CARD OF 'laws.FnName'. -/
def fnNameUptoCard : Claim7 := { stood := { row := fnNameUptoRow, standIns := [], harness := (true, "3e18275cf37e0da7f15b49157773808ba3788afcca52cf3f06bb42b5c31c0021"), looks := true }, kinds := [], alts := [], laidByText := true, laidKinds := [.data], laidTests := true, laidLooks := .later }
def FnNameUptoCardSaid : Prop := Claim7.holds Tryd.pinned (.plain (OpenSpec.upto fnNameSpec)) fnNameUptoCard

/-- THE SECOND FORM's CARD OF 'laws.FnReadVarint'. -/
def fnReadVarintUptoCard : Claim7 := { stood := { row := fnReadVarintUptoRow, standIns := [], harness := (true, "3e18275cf37e0da7f15b49157773808ba3788afcca52cf3f06bb42b5c31c0021"), looks := true }, kinds := [], alts := [], laidByText := true, laidKinds := [.sentinel], laidTests := true, laidLooks := .later }
def FnReadVarintUptoCardSaid : Prop := Claim7.holds Tryd.pinned (.plain (OpenSpec.upto fnReadVarintSpec)) fnReadVarintUptoCard

/-- THE SECOND FORM's CARD OF 'laws.FnReadInt'. -/
def fnReadIntUptoCard : Claim7 := { stood := { row := fnReadIntUptoRow, standIns := [], harness := (true, "3e18275cf37e0da7f15b49157773808ba3788afcca52cf3f06bb42b5c31c0021"), looks := true }, kinds := [], alts := [], laidByText := true, laidKinds := [.sentinel], laidTests := true, laidLooks := .later }
def FnReadIntUptoCardSaid : Prop := Claim7.holds Tryd.pinned (.plain (OpenSpec.upto fnReadIntSpec)) fnReadIntUptoCard

/-- THE SECOND FORM's CARD OF 'laws.FnInt'. -/
def fnIntUptoCard : Claim7 := { stood := { row := fnIntUptoRow, standIns := [], harness := (true, "3e18275cf37e0da7f15b49157773808ba3788afcca52cf3f06bb42b5c31c0021"), looks := true }, kinds := [], alts := [], laidByText := true, laidKinds := [.sentinel], laidTests := true, laidLooks := .later }
def FnIntUptoCardSaid : Prop := Claim7.holds Tryd.pinned (.plain (OpenSpec.upto fnIntSpec)) fnIntUptoCard

/-- THE SECOND FORM's CARD OF 'laws.FnCut'. -/
def fnCutUptoCard : Claim7 := { stood := { row := fnCutUptoRow, standIns := [], harness := (true, "3e18275cf37e0da7f15b49157773808ba3788afcca52cf3f06bb42b5c31c0021"), looks := true }, kinds := [], alts := [], laidByText := true, laidKinds := [.sentinel, .sentinel, .sentinel], laidTests := true, laidLooks := .later }
def FnCutUptoCardSaid : Prop := Claim7.holds Tryd.pinned (.plain (OpenSpec.upto fnCutSpec)) fnCutUptoCard

/-- THE SECOND FORM's CARD OF 'laws.FnVarint'. -/
def fnVarintUptoCard : Claim7 := { stood := { row := fnVarintUptoRow, standIns := [], harness := (true, "3e18275cf37e0da7f15b49157773808ba3788afcca52cf3f06bb42b5c31c0021"), looks := true }, kinds := [], alts := [], laidByText := true, laidKinds := [.sentinel], laidTests := true, laidLooks := .later }
def FnVarintUptoCardSaid : Prop := Claim7.holds Tryd.pinned (.plain (OpenSpec.upto fnVarintSpec)) fnVarintUptoCard

/-- THE SECOND FORM's CARD OF 'laws.FnFrame'. -/
def fnFrameUptoCard : Claim7 := { stood := { row := fnFrameUptoRow, standIns := [], harness := (true, "3e18275cf37e0da7f15b49157773808ba3788afcca52cf3f06bb42b5c31c0021"), looks := true }, kinds := [], alts := [], laidByText := true, laidKinds := [.sentinel, .sentinel, .sentinel], laidTests := true, laidLooks := .later }
def FnFrameUptoCardSaid : Prop := Claim7.holds Tryd.pinned (.plain (OpenSpec.upto fnFrameSpec)) fnFrameUptoCard

/-- THE SECOND FORM's CARD OF 'laws.FnReserved'. -/
def fnReservedUptoCard : Claim7 := { stood := { row := fnReservedUptoRow, standIns := [], harness := (true, "3e18275cf37e0da7f15b49157773808ba3788afcca52cf3f06bb42b5c31c0021"), looks := true }, kinds := [], alts := [], laidByText := true, laidKinds := [.sentinel], laidTests := true, laidLooks := .later }
def FnReservedUptoCardSaid : Prop := Claim7.holds Tryd.pinned (.plain (OpenSpec.upto fnReservedSpec)) fnReservedUptoCard

/-- THE SECOND FORM's CARD OF 'laws.FnSkip'. -/
def fnSkipUptoCard : Claim7 := { stood := { row := fnSkipUptoRow, standIns := [], harness := (true, "3e18275cf37e0da7f15b49157773808ba3788afcca52cf3f06bb42b5c31c0021"), looks := true }, kinds := [], alts := [], laidByText := true, laidKinds := [.sentinel], laidTests := true, laidLooks := .later }
def FnSkipUptoCardSaid : Prop := Claim7.holds Tryd.pinned (.plain (OpenSpec.upto fnSkipSpec)) fnSkipUptoCard

/-- THE SECOND FORM's CARD OF 'laws.FnSettings'. -/
def fnSettingsUptoCard : Claim7 := { stood := { row := fnSettingsUptoRow, standIns := [], harness := (true, "3e18275cf37e0da7f15b49157773808ba3788afcca52cf3f06bb42b5c31c0021"), looks := true }, kinds := [], alts := [], laidByText := true, laidKinds := [.sentinel], laidTests := true, laidLooks := .later }
def FnSettingsUptoCardSaid : Prop := Claim7.holds Tryd.pinned (.plain (OpenSpec.upto fnSettingsSpec)) fnSettingsUptoCard
end Rows
end Go.Proofs.YtfimelphdmmiaaaDoor
