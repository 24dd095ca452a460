/-
  DERIVED. GIVEN WITH THE SEED: THE CARDS: each row of Qxb6609465aDoorRows.lean that lists a variable, with what it lists TIED to the program's text (the seventh form; the later family's looks); each row that meets fmt, with fmt's text TOLD by the authors' own Lean function (tested against real Go, not proved from fmt's source: count such statements apart). THE CARD IS WHAT COUNTS. Prove the row's statement (the work); the ties are given (Qxb6609465aDoorTie.lean); close each card by the builder's one call (the guide's Derived/Test/ToyasCard.lean, 'card_holds'). Laid BY PROGRAM, IN A SANDBOX (cutbox-door.mjs). By AI agents, Wed Nov 11 2026. No macro, syntax, notation, axiom, sorry.
-/
import Derived.Test.Qxb6609465aDoorRows
import GoSem.ClaimSeven
namespace Go.Proofs.Qxb6609465aDoor
namespace Rows

/-- THE TIED CARD OF 'zzlaws_route_b1.FnNamesAllOrNone'. -/
def fnNamesAllOrNoneCard : Claim7 := { stood := { row := fnNamesAllOrNoneRow, standIns := [], harness := (true, "0444b8709af57db0b5916e6068f7a6bfb3d6aa57f64f559ba527388539d6a1f0"), looks := false }, kinds := [], alts := [], laidByText := true, laidKinds := [.data], laidTests := true, laidLooks := .later }
def FnNamesAllOrNoneCardSaid : Prop := Claim7.holds Tryd.pinned (.plain (OpenSpec.ofChange fnNamesAllOrNoneSpec)) fnNamesAllOrNoneCard

/-- THE TIED CARD OF 'zzlaws_route_b1.FnBoundFloorOnlyMinBandwidth'. -/
def fnBoundFloorOnlyMinBandwidthCard : Claim7 := { stood := { row := fnBoundFloorOnlyMinBandwidthRow, standIns := [], harness := (true, "0444b8709af57db0b5916e6068f7a6bfb3d6aa57f64f559ba527388539d6a1f0"), looks := false }, kinds := [], alts := [], laidByText := true, laidKinds := [.data], laidTests := true, laidLooks := .later }
def FnBoundFloorOnlyMinBandwidthCardSaid : Prop := Claim7.holds Tryd.pinned (.plain (OpenSpec.ofChange fnBoundFloorOnlyMinBandwidthSpec)) fnBoundFloorOnlyMinBandwidthCard
end Rows
end Go.Proofs.Qxb6609465aDoor
