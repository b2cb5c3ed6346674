/-
  DERIVED. GIVEN WITH THE SEED: THE CARDS: each row of YthnaobmepfkkpaaDoorRows.lean that lists a variable, with what it lists TIED to the program's text (the seventh form; the later family's looks); each row that meets fmt, with fmt's text TOLD by the authors' own Lean function (tested against real Go, not proved from fmt's source: count such statements apart). THE CARD IS WHAT COUNTS. Prove the row's statement (the work); the ties are given (YthnaobmepfkkpaaDoorTie.lean); close each card by the builder's one call (the guide's Derived/Test/ToyasCard.lean, 'card_holds'). Laid BY PROGRAM, IN A SANDBOX (cutbox-door.mjs). By AI agents, Wed Nov 11 2026. No macro, syntax, notation, axiom, sorry.
-/
import Derived.Test.YthnaobmepfkkpaaDoorRows
import GoSem.ClaimSeven
namespace Go.Proofs.YthnaobmepfkkpaaDoor
namespace Rows

/-- THE TIED CARD OF 'laws.FnString'. -/
def fnStringCard : Claim7 := { stood := { row := fnStringRow, standIns := [], harness := (true, "98c21de7fb0b4933009afa5e524d163fdd758ec1f28517fa9da2a13c8b6e7adf"), looks := true }, kinds := [], alts := [], laidByText := true, laidKinds := [.data, .data], laidTests := true, laidLooks := .later }
def FnStringCardSaid : Prop := Claim7.holds Tryd.pinned (.plain (OpenSpec.ofChange fnStringSpec)) fnStringCard

/-- THE TIED CARD OF 'laws.FnReadString'. -/
def fnReadStringCard : Claim7 := { stood := { row := fnReadStringRow, standIns := [], harness := (true, "98c21de7fb0b4933009afa5e524d163fdd758ec1f28517fa9da2a13c8b6e7adf"), looks := true }, kinds := [], alts := [], laidByText := true, laidKinds := [.sentinel, .sentinel, .sentinel, .sentinel, .sentinel, .sentinel, .data, .data], laidTests := true, laidLooks := .later }
def FnReadStringCardSaid : Prop := Claim7.holds Tryd.pinned (.plain (OpenSpec.ofChange fnReadStringSpec)) fnReadStringCard

/-- THE SECOND FORM's CARD OF 'laws.FnString'. -/
def fnStringUptoCard : Claim7 := { stood := { row := fnStringUptoRow, standIns := [], harness := (true, "98c21de7fb0b4933009afa5e524d163fdd758ec1f28517fa9da2a13c8b6e7adf"), looks := true }, kinds := [], alts := [], laidByText := true, laidKinds := [.data, .data], laidTests := true, laidLooks := .later }
def FnStringUptoCardSaid : Prop := Claim7.holds Tryd.pinned (.plain (OpenSpec.upto fnStringSpec)) fnStringUptoCard

/-- THE SECOND FORM's CARD OF 'laws.FnReadString'. -/
def fnReadStringUptoCard : Claim7 := { stood := { row := fnReadStringUptoRow, standIns := [], harness := (true, "98c21de7fb0b4933009afa5e524d163fdd758ec1f28517fa9da2a13c8b6e7adf"), looks := true }, kinds := [], alts := [], laidByText := true, laidKinds := [.sentinel, .sentinel, .sentinel, .sentinel, .sentinel, .sentinel, .data, .data], laidTests := true, laidLooks := .later }
def FnReadStringUptoCardSaid : Prop := Claim7.holds Tryd.pinned (.plain (OpenSpec.upto fnReadStringSpec)) fnReadStringUptoCard
end Rows
end Go.Proofs.YthnaobmepfkkpaaDoor
