/-
  NARROWER THAN 'FOR EVERY INPUT', by the rows' own cells (each row's printed sentence says how): FnNamesAllOrNone: laid · FnBoundFloorOnlyMinBandwidth: laid.
  DERIVED. THE GIVEN ROWS OF THIS SEAT. 2 by the template 'for every input the law returns true; each argument reads behind the call as it read before'; 0 by the template 'total and deterministic' (their statements: Qxb6609465aDoorTotals.lean).
  GIVEN WITH THE SEED: the statements are not yours to turn. If you find one false, say at which input.
  Laid BY PROGRAM, IN A SANDBOX (cutbox-rows.mjs): the forced cells as the released guide's own fill.sh prints them over the translation 5000a25be8322736… (all of the seat's roots in one cut). By AI agents, Wed Nov 11 2026. No macro, syntax, notation, axiom, sorry.
-/
import Derived.Test.Qxb6609465aDoorChecked
import GoSem.Claim
import GoSem.ClaimJoined
import GoSem.ClaimMapViews
import Derived.JoinedTies
import Derived.KernelRfl
namespace Go.Proofs.Qxb6609465aDoor
/- THE CELL 'sum', in the pinned program and in every row, IS THE sha256 OF THE DUMP (.gsa) THAT Qxb6609465aDoorProg.lean LOADS. Nothing in Lean hashes anything: it is a label: what it is worth is what the hold of that sum in a sandbox is worth. -/
noncomputable def Tryd.pinned : Pinned := { name := "qxb6609465adoor", sum := "5000a25be8322736279b2d9cdd1f3fb11e908d6f009527dd631dbd1b8ac88568", checked := Tryd.checked }
namespace Rows
def none {H : Type} : Left H := { results := [], args := [] }

/- WHAT THE LISTED PACKAGE-LEVEL VARIABLES READ AS WHEN THE CALL BEGINS. Each datum BY PROGRAM (the guide's laid-datum.mjs) off the statement by which the dump's own 'gosem.cut.vars' lays the variable. In a bare row this is a premise. The card (Qxb6609465aDoorCards.lean) ties it to the program's text. -/
def laid_example_com_pathweave_pathweave_route_intents {H : Type} : DataW H := .slice [.agg [.lit (.string [108, 111, 119, 45, 108, 97, 116, 101, 110, 99, 121]), .lit (.int .u8 1), .lit (.string [115, 117, 109])], .agg [.lit (.string [108, 111, 119, 45, 106, 105, 116, 116, 101, 114]), .lit (.int .u8 2), .lit (.string [115, 117, 109])], .agg [.lit (.string [108, 111, 119, 45, 108, 111, 115, 115]), .lit (.int .u8 4), .lit (.string [115, 117, 109])], .agg [.lit (.string [108, 111, 119, 45, 117, 116, 105, 108, 105, 122, 97, 116, 105, 111, 110]), .lit (.int .u8 8), .lit (.string [115, 117, 109])], .agg [.lit (.string [102, 101, 119, 101, 115, 116, 45, 104, 111, 112, 115]), .lit (.int .u8 0), .lit (.string [115, 117, 109])], .agg [.lit (.string [104, 105, 103, 104, 45, 98, 97, 110, 100, 119, 105, 100, 116, 104]), .lit (.int .u8 16), .lit (.string [119, 105, 100, 101, 115, 116])], .agg [.lit (.string [108, 111, 119, 45, 98, 97, 110, 100, 119, 105, 100, 116, 104]), .lit (.int .u8 16), .lit (.string [110, 97, 114, 114, 111, 119, 101, 115, 116])]] []
def laid_example_com_pathweave_pathweave_route_bounds {H : Type} : DataW H := .slice [.agg [.lit (.string [109, 97, 120, 95, 108, 97, 116, 101, 110, 99, 121, 95, 117, 115]), .lit (.int .u8 1), .lit (.bool false)], .agg [.lit (.string [109, 97, 120, 95, 106, 105, 116, 116, 101, 114, 95, 117, 115]), .lit (.int .u8 2), .lit (.bool false)], .agg [.lit (.string [109, 97, 120, 95, 108, 111, 115, 115]), .lit (.int .u8 4), .lit (.bool false)], .agg [.lit (.string [109, 105, 110, 95, 98, 97, 110, 100, 119, 105, 100, 116, 104, 95, 98, 112, 115]), .lit (.int .u8 16), .lit (.bool true)]] []

/-- 'zzlaws_route_b1.FnNamesAllOrNone': WHATEVER THE INPUT: true; the input reads as it did. -/
def fnNamesAllOrNoneSpec : ChangeSpec := { name := "fnNamesAllOrNone", vars := ["example.com/pathweave/pathweave/route.intents"], fn := fun _ => fun
  | [d, g1] => { results := [.lit (.bool true)], args := [d], vars := [g1] }
  | _ => none }
def fnNamesAllOrNoneRow : OpenClaim := { program := "qxb6609465adoor", sum := "5000a25be8322736279b2d9cdd1f3fb11e908d6f009527dd631dbd1b8ac88568", func := "example.com/pathweave/pathweave/zzlaws_route_b1.FnNamesAllOrNone", spec := "fnNamesAllOrNone", inPlace := ["internal/abi.NoEscape", "internal/bytealg.MakeNoZero"], unfollowed := true, recurses := true, named := ["example.com/pathweave/pathweave/route.intents"], apart := false, laid := [("example.com/pathweave/pathweave/route.intents", laid_example_com_pathweave_pathweave_route_intents)] }
def FnNamesAllOrNoneSaid : Prop := fnNamesAllOrNoneRow.holds Tryd.pinned (OpenSpec.ofChange fnNamesAllOrNoneSpec)

/-- ITS FALSE NEIGHBOUR: 'it returns false'. Refute it at one input. -/
def fnNamesAllOrNoneWrong : ChangeSpec := { name := "fnNamesAllOrNone", vars := ["example.com/pathweave/pathweave/route.intents"], fn := fun _ => fun
  | [d, g1] => { results := [.lit (.bool false)], args := [d], vars := [g1] }
  | _ => none }
def FnNamesAllOrNoneWrongFalsely : Prop := fnNamesAllOrNoneRow.holds Tryd.pinned (OpenSpec.ofChange fnNamesAllOrNoneWrong)

/-- 'zzlaws_route_b1.FnBoundFloorOnlyMinBandwidth': WHATEVER THE INPUT: true; the input reads as it did. -/
def fnBoundFloorOnlyMinBandwidthSpec : ChangeSpec := { name := "fnBoundFloorOnlyMinBandwidth", vars := ["example.com/pathweave/pathweave/route.bounds"], fn := fun _ => fun
  | [d, g1] => { results := [.lit (.bool true)], args := [d], vars := [g1] }
  | _ => none }
def fnBoundFloorOnlyMinBandwidthRow : OpenClaim := { program := "qxb6609465adoor", sum := "5000a25be8322736279b2d9cdd1f3fb11e908d6f009527dd631dbd1b8ac88568", func := "example.com/pathweave/pathweave/zzlaws_route_b1.FnBoundFloorOnlyMinBandwidth", spec := "fnBoundFloorOnlyMinBandwidth", named := ["example.com/pathweave/pathweave/route.bounds"], apart := false, laid := [("example.com/pathweave/pathweave/route.bounds", laid_example_com_pathweave_pathweave_route_bounds)] }
def FnBoundFloorOnlyMinBandwidthSaid : Prop := fnBoundFloorOnlyMinBandwidthRow.holds Tryd.pinned (OpenSpec.ofChange fnBoundFloorOnlyMinBandwidthSpec)

/-- ITS FALSE NEIGHBOUR: 'it returns false'. Refute it at one input. -/
def fnBoundFloorOnlyMinBandwidthWrong : ChangeSpec := { name := "fnBoundFloorOnlyMinBandwidth", vars := ["example.com/pathweave/pathweave/route.bounds"], fn := fun _ => fun
  | [d, g1] => { results := [.lit (.bool false)], args := [d], vars := [g1] }
  | _ => none }
def FnBoundFloorOnlyMinBandwidthWrongFalsely : Prop := fnBoundFloorOnlyMinBandwidthRow.holds Tryd.pinned (OpenSpec.ofChange fnBoundFloorOnlyMinBandwidthWrong)

end Rows
end Go.Proofs.Qxb6609465aDoor
