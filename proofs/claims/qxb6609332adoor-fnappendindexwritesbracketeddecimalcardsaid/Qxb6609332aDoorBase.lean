/-
  SEAT b6609332aD: what the rows' listed tables give the walks; the witness's start.
-/
import Derived.Test.Qxb6609332aDoorW2
import Derived.ProofKit
import Derived.LaidMore
import Derived.OpenShut
import Derived.ChangeOld
import Derived.Lib.LaidTab
import Derived.Stop.Joined
import Derived.WalkSmall
namespace Go.Proofs.Qxb6609332aDoor
open Go.ChangeShapes Go.WideShapes Go.ChangeAt Go.RowKit

theorem own : ownKnob Tryd.prog.godebug = none := by kernel_rfl
theorem laidOut : laidOutB Tryd.prog = true := by kernel_rfl

/-- The list that both rows bear. -/
def tabs3 : List (String × DataW Unit) := Rows.fnAppendIndexParsesBackInOrderRow.laid
theorem tabs3_writes : Rows.fnAppendIndexWritesBracketedDecimalRow.laid = tabs3 := rfl

theorem door_met (os : Os) (args : Array Value) : laidMetH Tryd.prog tabs3 ((World.doorLaid Tryd.prog 24 os).forCall (fun _ _ => 0) ⟨#[], args, []⟩).memory :=
  laidMetH_of_parts3 (fuel := 8) (laidMet_of_run' 8 (by kernel_rfl) (by kernel_rfl)) (by kernel_rfl) (by kernel_rfl)

theorem of_laid {W : World} (h0 : laidMetH Tryd.prog tabs3 W) : Lib.TabIs Tryd.prog W powName .u64 Lib.pow10Tab ∧ TabAt 1 Lib.deBruijn64tab W := by
  rw [MakeChecks.laidMetH_plain _ _ _ (by kernel_rfl)] at h0
  have h : laidMet Tryd.prog (_ :: _ :: _ :: []) W := h0
  have h1 := h.tail
  have h2 := h1.tail
  have hB : Lib.TabIs Tryd.prog W _ .u8 (Lib.deBruijn64tab.map fun x : Nat => (x : Int)) := Lib.tabIs_of_head (g := 1) (t := 44) (e := 5) (n := 64) (by kernel_rfl) (by kernel_rfl) Tryd.underlying44 Tryd.underlying5 (by kernel_rfl) (by kernel_rfl) h1
  have hP : Lib.TabIs Tryd.prog W powName .u64 Lib.pow10Tab := Lib.tabIs_of_head (g := 2) (t := 51) (e := 38) (n := 20) (by kernel_rfl) (by kernel_rfl) Tryd.underlying51 Tryd.underlying38 (by kernel_rfl) (by kernel_rfl) h2
  refine ⟨hP, fun j hj => ?_⟩
  have := hB.cell (g := 1) (by kernel_rfl) j (by simpa using hj)
  rw [this]
  simp [List.getD, hj]

theorem tabs_of_laid {W : World} (h : laidMetH Tryd.prog tabs3 W) : Tabs W.heap.size W := by
  obtain ⟨hp, hb⟩ := of_laid h
  have hg : Tryd.prog.globalNamed powName = some 2 := by kernel_rfl
  have h2 : 2 < W.heap.size := World.block_lt_of_cell? W _ (hp.cell hg 0 (by rw [Lib.pow10Tab_length]; decide))
  have h1 : 1 < W.heap.size := World.block_lt_of_cell? W _ (hb 0 (by decide))
  refine ⟨fun w' hw => var?_below hw hg h2 hp, fun w' hw j hj => ?_⟩
  rw [hw.cell (p := ⟨1, j, none⟩) h1]
  exact hb j hj

end Go.Proofs.Qxb6609332aDoor
