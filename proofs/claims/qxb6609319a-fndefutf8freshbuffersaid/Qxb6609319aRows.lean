/-
  No cell of these rows narrows 'for every input' (looked for: loops, veiled, ifaces, maps, wideKeys, modest, calm, conditions, laid).
  DERIVED. THE GIVEN ROWS OF THIS SEAT. 2 by the template 'for every input the law returns true; each argument reads behind the call as it read before'; 0 by the template 'total and deterministic' (their statements: Qxb6609319aTotals.lean).
  GIVEN WITH THE SEED: the statements are not yours to turn. If you find one false, say at which input.
  Laid BY PROGRAM, IN A SANDBOX (cutbox-rows.mjs): the forced cells as the released guide's own fill.sh prints them over the translation a51a84371f6cd0a5… (all of the seat's roots in one cut). By AI agents, Wed Nov 11 2026. No macro, syntax, notation, axiom, sorry.
-/
import Derived.Test.Qxb6609319aChecked
import GoSem.Claim
import GoSem.ClaimJoined
import GoSem.ClaimMapViews
import Derived.JoinedTies
import Derived.KernelRfl
namespace Go.Proofs.Qxb6609319a
/- THE CELL 'sum', in the pinned program and in every row, IS THE sha256 OF THE DUMP (.gsa) THAT Qxb6609319aProg.lean LOADS. Nothing in Lean hashes anything: it is a label: what it is worth is what the hold of that sum in a sandbox is worth. -/
noncomputable def Try.pinned : Pinned := { name := "qxb6609319a", sum := "a51a84371f6cd0a57ba65fdc80ea52526a19400b661f0450551a21070721ded0", checked := Try.checked }
namespace Rows
def none {H : Type} : Left H := { results := [], args := [] }

/-- 'zzlaws_internal_diameter_b1.FnDefUTF8FreshBuffer': WHATEVER THE INPUT: true; the input reads as it did. -/
def fnDefUTF8FreshBufferSpec : ChangeSpec := { name := "fnDefUTF8FreshBuffer", fn := fun _ => fun
  | [d1, d2, d3, d4, d5, d6] => { results := [.lit (.bool true)], args := [d1, d2, d3, d4, d5, d6] }
  | _ => none }
def fnDefUTF8FreshBufferRow : OpenClaim := { program := "qxb6609319a", sum := "a51a84371f6cd0a57ba65fdc80ea52526a19400b661f0450551a21070721ded0", func := "example.com/hearthline/hearthline/zzlaws_internal_diameter_b1.FnDefUTF8FreshBuffer", spec := "fnDefUTF8FreshBuffer", apart := false }
def FnDefUTF8FreshBufferSaid : Prop := fnDefUTF8FreshBufferRow.holds Try.pinned (OpenSpec.ofChange fnDefUTF8FreshBufferSpec)

/-- ITS FALSE NEIGHBOUR: 'it returns false'. Refute it at one input. -/
def fnDefUTF8FreshBufferWrong : ChangeSpec := { name := "fnDefUTF8FreshBuffer", fn := fun _ => fun
  | [d1, d2, d3, d4, d5, d6] => { results := [.lit (.bool false)], args := [d1, d2, d3, d4, d5, d6] }
  | _ => none }
def FnDefUTF8FreshBufferWrongFalsely : Prop := fnDefUTF8FreshBufferRow.holds Try.pinned (OpenSpec.ofChange fnDefUTF8FreshBufferWrong)

/-- 'zzlaws_internal_diameter_b1.FnAVPIsRecognisesItsDef': WHATEVER THE INPUT: true; the input reads as it did. -/
def fnAVPIsRecognisesItsDefSpec : ChangeSpec := { name := "fnAVPIsRecognisesItsDef", fn := fun _ => fun
  | [d1, d2, d3, d4, d5, d6, d7, d8, d9] => { results := [.lit (.bool true)], args := [d1, d2, d3, d4, d5, d6, d7, d8, d9] }
  | _ => none }
def fnAVPIsRecognisesItsDefRow : OpenClaim := { program := "qxb6609319a", sum := "a51a84371f6cd0a57ba65fdc80ea52526a19400b661f0450551a21070721ded0", func := "example.com/hearthline/hearthline/zzlaws_internal_diameter_b1.FnAVPIsRecognisesItsDef", spec := "fnAVPIsRecognisesItsDef", apart := false }
def FnAVPIsRecognisesItsDefSaid : Prop := fnAVPIsRecognisesItsDefRow.holds Try.pinned (OpenSpec.ofChange fnAVPIsRecognisesItsDefSpec)

/-- ITS FALSE NEIGHBOUR: 'it returns false'. Refute it at one input. -/
def fnAVPIsRecognisesItsDefWrong : ChangeSpec := { name := "fnAVPIsRecognisesItsDef", fn := fun _ => fun
  | [d1, d2, d3, d4, d5, d6, d7, d8, d9] => { results := [.lit (.bool false)], args := [d1, d2, d3, d4, d5, d6, d7, d8, d9] }
  | _ => none }
def FnAVPIsRecognisesItsDefWrongFalsely : Prop := fnAVPIsRecognisesItsDefRow.holds Try.pinned (OpenSpec.ofChange fnAVPIsRecognisesItsDefWrong)

end Rows
end Go.Proofs.Qxb6609319a
