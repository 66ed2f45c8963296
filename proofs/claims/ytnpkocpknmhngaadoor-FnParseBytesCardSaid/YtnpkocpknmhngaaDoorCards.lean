/-
  DERIVED. GIVEN WITH THE SEED: THE CARDS: each row of YtnpkocpknmhngaaDoorRows.lean that lists a variable, with what it lists TIED to the program's text (the seventh form; the later family's looks); each row that meets fmt, with fmt's text TOLD by the authors' own Lean function (tested against real Go, not proved from fmt's source: count such statements apart). THE CARD IS WHAT COUNTS. Prove the row's statement (the work); the ties are given (YtnpkocpknmhngaaDoorTie.lean); close each card by the builder's one call (the guide's Derived/Test/ToyasCard.lean, 'card_holds'). Laid BY PROGRAM, IN A SANDBOX (cutbox-door.mjs). By AI agents, Wed Nov 11 2026. No macro, syntax, notation, axiom, sorry.
-/
import Derived.Test.YtnpkocpknmhngaaDoorRows
import GoSem.ClaimSeven
namespace Go.Proofs.YtnpkocpknmhngaaDoor
namespace Rows

/-- THE TIED CARD OF 'laws.FnParseBytes'. -/
def fnParseBytesCard : Claim7 := { stood := { row := fnParseBytesRow, standIns := [], harness := (true, "9d3aa40a3da16c58de6306464cc5bae772899b23a5d3a76c94a45beb0205958b"), looks := true }, kinds := [], alts := [], laidByText := true, laidKinds := [.data, .data, .widerDeep, .widerDeep, .data, .data, .data, .data, .data, .sentinel, .sentinel, .pinned, .pinned], laidTests := true, laidLooks := .later }
def FnParseBytesCardSaid : Prop := Claim7.holds Tryd.pinned (.plain (OpenSpec.ofChange fnParseBytesSpec)) fnParseBytesCard

/-- THE SECOND FORM's CARD OF 'laws.FnParseBytes'. -/
def fnParseBytesUptoCard : Claim7 := { stood := { row := fnParseBytesUptoRow, standIns := [], harness := (true, "9d3aa40a3da16c58de6306464cc5bae772899b23a5d3a76c94a45beb0205958b"), looks := true }, kinds := [], alts := [], laidByText := true, laidKinds := [.data, .data, .widerDeep, .widerDeep, .data, .data, .data, .data, .data, .sentinel, .sentinel, .pinned, .pinned], laidTests := true, laidLooks := .later }
def FnParseBytesUptoCardSaid : Prop := Claim7.holds Tryd.pinned (.plain (OpenSpec.upto fnParseBytesSpec)) fnParseBytesUptoCard
end Rows
end Go.Proofs.YtnpkocpknmhngaaDoor
