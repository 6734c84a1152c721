/-
  DERIVED. GIVEN WITH THE SEED: THE CARDS: each row of Qxb6605507aDoorRows.lean that lists a variable, with what it lists TIED to the program's text (the seventh form; the later family's looks); each row that meets fmt, with fmt's text TOLD by the authors' own Lean function (tested against real Go, not proved from fmt's source: count such statements apart). THE CARD IS WHAT COUNTS. Prove the row's statement (the work); the ties are given (Qxb6605507aDoorTie.lean); close each card by the builder's one call (the guide's Derived/Test/ToyasCard.lean, 'card_holds'). Laid BY PROGRAM, IN A SANDBOX (cutbox-door.mjs). By AI agents, Wed Nov 11 2026. No macro, syntax, notation, axiom, sorry.
-/
import Derived.Test.Qxb6605507aDoorRows
import GoSem.ClaimSeven
namespace Go.Proofs.Qxb6605507aDoor
namespace Rows

/-- THE TIED CARD OF 'zzlaws_internal_wire_b1.FnToInstanceDocPortsOnTheWire'. -/
def fnToInstanceDocPortsOnTheWireCard : Claim7 := { stood := { row := fnToInstanceDocPortsOnTheWireRow, standIns := [], harness := (true, "4f46826332fcab3c3bb5bd2d6c167df11f74ab34f7b9d9882f393ae46a86b988"), looks := false }, kinds := [], alts := [], laidByText := true, laidKinds := [.data, .data, .data], laidTests := true, laidLooks := .later }
def FnToInstanceDocPortsOnTheWireCardSaid : Prop := Claim7.holds Tryd.pinned (.plain (OpenSpec.ofChange fnToInstanceDocPortsOnTheWireSpec)) fnToInstanceDocPortsOnTheWireCard

/-- THE TIED CARD OF 'zzlaws_internal_wire_b1.FnPortAppendJSONReadsBack'. -/
def fnPortAppendJSONReadsBackCard : Claim7 := { stood := { row := fnPortAppendJSONReadsBackRow, standIns := [], harness := (true, "4f46826332fcab3c3bb5bd2d6c167df11f74ab34f7b9d9882f393ae46a86b988"), looks := false }, kinds := [], alts := [], laidByText := true, laidKinds := [.data, .data, .data], laidTests := true, laidLooks := .later }
def FnPortAppendJSONReadsBackCardSaid : Prop := Claim7.holds Tryd.pinned (.plain (OpenSpec.ofChange fnPortAppendJSONReadsBackSpec)) fnPortAppendJSONReadsBackCard

/-- THE TIED CARD OF 'zzlaws_internal_wire_b1.FnPortAppendJSONPrefixAndLength'. -/
def fnPortAppendJSONPrefixAndLengthCard : Claim7 := { stood := { row := fnPortAppendJSONPrefixAndLengthRow, standIns := [], harness := (true, "4f46826332fcab3c3bb5bd2d6c167df11f74ab34f7b9d9882f393ae46a86b988"), looks := false }, kinds := [], alts := [], laidByText := true, laidKinds := [.data, .data, .data], laidTests := true, laidLooks := .later }
def FnPortAppendJSONPrefixAndLengthCardSaid : Prop := Claim7.holds Tryd.pinned (.plain (OpenSpec.ofChange fnPortAppendJSONPrefixAndLengthSpec)) fnPortAppendJSONPrefixAndLengthCard

/-- THE TIED CARD OF 'zzlaws_internal_wire_b1.FnPortAppendXMLReadsBack'. -/
def fnPortAppendXMLReadsBackCard : Claim7 := { stood := { row := fnPortAppendXMLReadsBackRow, standIns := [], harness := (true, "4f46826332fcab3c3bb5bd2d6c167df11f74ab34f7b9d9882f393ae46a86b988"), looks := false }, kinds := [], alts := [], laidByText := true, laidKinds := [.data, .data, .data], laidTests := true, laidLooks := .later }
def FnPortAppendXMLReadsBackCardSaid : Prop := Claim7.holds Tryd.pinned (.plain (OpenSpec.ofChange fnPortAppendXMLReadsBackSpec)) fnPortAppendXMLReadsBackCard

/-- THE TIED CARD OF 'zzlaws_internal_wire_b1.FnPortAppendXMLPrefixAndLength'. -/
def fnPortAppendXMLPrefixAndLengthCard : Claim7 := { stood := { row := fnPortAppendXMLPrefixAndLengthRow, standIns := [], harness := (true, "4f46826332fcab3c3bb5bd2d6c167df11f74ab34f7b9d9882f393ae46a86b988"), looks := false }, kinds := [], alts := [], laidByText := true, laidKinds := [.data, .data, .data], laidTests := true, laidLooks := .later }
def FnPortAppendXMLPrefixAndLengthCardSaid : Prop := Claim7.holds Tryd.pinned (.plain (OpenSpec.ofChange fnPortAppendXMLPrefixAndLengthSpec)) fnPortAppendXMLPrefixAndLengthCard
end Rows
end Go.Proofs.Qxb6605507aDoor
