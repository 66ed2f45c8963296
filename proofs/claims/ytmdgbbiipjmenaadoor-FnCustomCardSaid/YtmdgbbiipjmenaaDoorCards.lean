/-
  DERIVED. GIVEN WITH THE SEED: THE CARDS: each row of YtmdgbbiipjmenaaDoorRows.lean that lists a variable, with what it lists TIED to the program's text (the seventh form; the later family's looks); each row that meets fmt, with fmt's text TOLD by the authors' own Lean function (tested against real Go, not proved from fmt's source: count such statements apart). THE CARD IS WHAT COUNTS. Prove the row's statement (the work); the ties are given (YtmdgbbiipjmenaaDoorTie.lean); close each card by the builder's one call (the guide's Derived/Test/ToyasCard.lean, 'card_holds'). Laid BY PROGRAM, IN A SANDBOX (cutbox-door.mjs). By AI agents, Wed Nov 11 2026. No macro, syntax, notation, axiom, sorry.
-/
import Derived.Test.YtmdgbbiipjmenaaDoorRows
import GoSem.ClaimSeven
namespace Go.Proofs.YtmdgbbiipjmenaaDoor
namespace Rows

/-- THE TIED CARD OF 'laws.FnOrdinal'. -/
def fnOrdinalCard : Claim7 := { stood := { row := fnOrdinalRow, standIns := [], harness := (true, "fac3ff14f1c8a07c396a686c946f559f537fef353b9d0df1825b180e6dffd8ca"), looks := true }, kinds := [], alts := [], laidByText := true, laidKinds := [.data, .data, .data], laidTests := true, laidLooks := .later }
def FnOrdinalCardSaid : Prop := Claim7.holds Tryd.pinned (.plain (OpenSpec.ofChange fnOrdinalSpec)) fnOrdinalCard

/-- THE TIED CARD OF 'laws.FnCustom'. -/
def fnCustomCard : Claim7 := { stood := { row := fnCustomRow, standIns := [], harness := (true, "fac3ff14f1c8a07c396a686c946f559f537fef353b9d0df1825b180e6dffd8ca"), looks := true }, kinds := [], alts := [], laidByText := true, laidKinds := [.data, .data, .data], laidTests := true, laidLooks := .later }
def FnCustomCardSaid : Prop := Claim7.holds Tryd.pinned (.plain (OpenSpec.ofChange fnCustomSpec)) fnCustomCard

/-- THE TIED CARD OF 'laws.FnRel'. -/
def fnRelCard : Claim7 := { stood := { row := fnRelRow, standIns := [], harness := (true, "fac3ff14f1c8a07c396a686c946f559f537fef353b9d0df1825b180e6dffd8ca"), looks := true }, kinds := [], alts := [], laidByText := true, laidKinds := [.data, .data, .data], laidTests := true, laidLooks := .later }
def FnRelCardSaid : Prop := Claim7.holds Tryd.pinned (.plain (OpenSpec.ofChange fnRelSpec)) fnRelCard

/-- THE TIED CARD OF 'laws.FnComma'. -/
def fnCommaCard : Claim7 := { stood := { row := fnCommaRow, standIns := [], harness := (true, "fac3ff14f1c8a07c396a686c946f559f537fef353b9d0df1825b180e6dffd8ca"), looks := true }, kinds := [], alts := [], laidByText := true, laidKinds := [.data, .data, .data, .sentinel, .sentinel], laidTests := true, laidLooks := .later }
def FnCommaCardSaid : Prop := Claim7.holds Tryd.pinned (.plain (OpenSpec.ofChange fnCommaSpec)) fnCommaCard

/-- THE SECOND FORM's CARD OF 'laws.FnOrdinal'. -/
def fnOrdinalUptoCard : Claim7 := { stood := { row := fnOrdinalUptoRow, standIns := [], harness := (true, "fac3ff14f1c8a07c396a686c946f559f537fef353b9d0df1825b180e6dffd8ca"), looks := true }, kinds := [], alts := [], laidByText := true, laidKinds := [.data, .data, .data], laidTests := true, laidLooks := .later }
def FnOrdinalUptoCardSaid : Prop := Claim7.holds Tryd.pinned (.plain (OpenSpec.upto fnOrdinalSpec)) fnOrdinalUptoCard

/-- THE SECOND FORM's CARD OF 'laws.FnCustom'. -/
def fnCustomUptoCard : Claim7 := { stood := { row := fnCustomUptoRow, standIns := [], harness := (true, "fac3ff14f1c8a07c396a686c946f559f537fef353b9d0df1825b180e6dffd8ca"), looks := true }, kinds := [], alts := [], laidByText := true, laidKinds := [.data, .data, .data], laidTests := true, laidLooks := .later }
def FnCustomUptoCardSaid : Prop := Claim7.holds Tryd.pinned (.plain (OpenSpec.upto fnCustomSpec)) fnCustomUptoCard

/-- THE SECOND FORM's CARD OF 'laws.FnRel'. -/
def fnRelUptoCard : Claim7 := { stood := { row := fnRelUptoRow, standIns := [], harness := (true, "fac3ff14f1c8a07c396a686c946f559f537fef353b9d0df1825b180e6dffd8ca"), looks := true }, kinds := [], alts := [], laidByText := true, laidKinds := [.data, .data, .data], laidTests := true, laidLooks := .later }
def FnRelUptoCardSaid : Prop := Claim7.holds Tryd.pinned (.plain (OpenSpec.upto fnRelSpec)) fnRelUptoCard

/-- THE SECOND FORM's CARD OF 'laws.FnComma'. -/
def fnCommaUptoCard : Claim7 := { stood := { row := fnCommaUptoRow, standIns := [], harness := (true, "fac3ff14f1c8a07c396a686c946f559f537fef353b9d0df1825b180e6dffd8ca"), looks := true }, kinds := [], alts := [], laidByText := true, laidKinds := [.data, .data, .data, .sentinel, .sentinel], laidTests := true, laidLooks := .later }
def FnCommaUptoCardSaid : Prop := Claim7.holds Tryd.pinned (.plain (OpenSpec.upto fnCommaSpec)) fnCommaUptoCard
end Rows
end Go.Proofs.YtmdgbbiipjmenaaDoor
