/-
  DERIVED. GIVEN WITH THE SEED: THE CARDS: each row of Qxb6609332aDoorRows.lean that lists a variable, with what it lists TIED to the program's text (the seventh form; the later family's looks); each row that meets fmt, with fmt's text TOLD by the authors' own Lean function (tested against real Go, not proved from fmt's source: count such statements apart). THE CARD IS WHAT COUNTS. Prove the row's statement (the work); the ties are given (Qxb6609332aDoorTie.lean); close each card by the builder's one call (the guide's Derived/Test/ToyasCard.lean, 'card_holds'). Laid BY PROGRAM, IN A SANDBOX (cutbox-door.mjs). By AI agents, Wed Nov 11 2026. No macro, syntax, notation, axiom, sorry.
-/
import Derived.Test.Qxb6609332aDoorRows
import GoSem.ClaimSeven
namespace Go.Proofs.Qxb6609332aDoor
namespace Rows

/-- THE TIED CARD OF 'zzlaws_aes_b1.FnAppendIndexWritesBracketedDecimal'. -/
def fnAppendIndexWritesBracketedDecimalCard : Claim7 := { stood := { row := fnAppendIndexWritesBracketedDecimalRow, standIns := [], harness := (true, "177d66788a315cacd67d342ad6e7b0e6722141414facc78b2e0c2318a331979e"), looks := false }, kinds := [], alts := [], laidByText := true, laidKinds := [.data, .data, .data], laidTests := true, laidLooks := .later }
def FnAppendIndexWritesBracketedDecimalCardSaid : Prop := Claim7.holds Tryd.pinned (.plain (OpenSpec.ofChange fnAppendIndexWritesBracketedDecimalSpec)) fnAppendIndexWritesBracketedDecimalCard

/-- THE TIED CARD OF 'zzlaws_aes_b1.FnAppendIndexParsesBackInOrder'. -/
def fnAppendIndexParsesBackInOrderCard : Claim7 := { stood := { row := fnAppendIndexParsesBackInOrderRow, standIns := [], harness := (true, "177d66788a315cacd67d342ad6e7b0e6722141414facc78b2e0c2318a331979e"), looks := false }, kinds := [], alts := [], laidByText := true, laidKinds := [.data, .data, .data], laidTests := true, laidLooks := .later }
def FnAppendIndexParsesBackInOrderCardSaid : Prop := Claim7.holds Tryd.pinned (.plain (OpenSpec.ofChange fnAppendIndexParsesBackInOrderSpec)) fnAppendIndexParsesBackInOrderCard
end Rows
end Go.Proofs.Qxb6609332aDoor
