/-
  DERIVED. GIVEN WITH THE SEED: THE CARDS: each row of Qxb6615697aDoorRows.lean that lists a variable, with what it lists TIED to the program's text (the seventh form; the later family's looks); each row that meets fmt, with fmt's text TOLD by the authors' own Lean function (tested against real Go, not proved from fmt's source: count such statements apart). THE CARD IS WHAT COUNTS. Prove the row's statement (the work); the ties are given (Qxb6615697aDoorTie.lean); close each card by the builder's one call (the guide's Derived/Test/ToyasCard.lean, 'card_holds'). Laid BY PROGRAM, IN A SANDBOX (cutbox-door.mjs). By AI agents, Wed Nov 11 2026. No macro, syntax, notation, axiom, sorry.
-/
import Derived.Test.Qxb6615697aDoorRows
import GoSem.ClaimSeven
namespace Go.Proofs.Qxb6615697aDoor
namespace Rows

/-- THE TIED CARD OF 'zzlaws_internal_types_b1.FnArrayElemReturnsBuiltElement'. -/
def fnArrayElemReturnsBuiltElementCard : Claim7 := { stood := { row := fnArrayElemReturnsBuiltElementRow, standIns := [], harness := (true, "8e7c152db4d0d9cdc60f604be2275025095950931fa853b3ce8b8f06cc2dfc44"), looks := true }, kinds := [], alts := [], laidByText := true, laidKinds := [.data, .data, .data], laidTests := true, laidLooks := .later }
def FnArrayElemReturnsBuiltElementCardSaid : Prop := Claim7.holds Tryd.pinned (.plain (OpenSpec.ofChange fnArrayElemReturnsBuiltElementSpec)) fnArrayElemReturnsBuiltElementCard

/-- THE TIED CARD OF 'zzlaws_internal_types_b1.FnArrayElemPeelsOneLayer'. -/
def fnArrayElemPeelsOneLayerCard : Claim7 := { stood := { row := fnArrayElemPeelsOneLayerRow, standIns := [], harness := (true, "8e7c152db4d0d9cdc60f604be2275025095950931fa853b3ce8b8f06cc2dfc44"), looks := true }, kinds := [], alts := [], laidByText := true, laidKinds := [.data, .data, .data], laidTests := true, laidLooks := .later }
def FnArrayElemPeelsOneLayerCardSaid : Prop := Claim7.holds Tryd.pinned (.plain (OpenSpec.ofChange fnArrayElemPeelsOneLayerSpec)) fnArrayElemPeelsOneLayerCard
end Rows
end Go.Proofs.Qxb6615697aDoor
