/-
  SEAT b6609465aD: what the row's listed variable gives the walks; the witness's start.
-/
import Derived.Test.Qxb6609465aDoorW1
import Derived.ProofKit
import Derived.LaidMore
import Derived.OpenShut
import Derived.ChangeOld
import Derived.OpenVars
import Derived.ChangeVars
import Derived.Deep.Slices
import Derived.Deep.Strs
import Derived.Stop.Joined
import Derived.WalkSmall
namespace Go.Proofs.Qxb6609465aDoor
open Go.ChangeShapes Go.WideShapes Go.ChangeAt Go.RowKit

theorem own : ownKnob Tryd.prog.godebug = none := by kernel_rfl
theorem laidOut : laidOutB Tryd.prog = true := by kernel_rfl

/-- The list that the row bears. -/
def tabs1 : List (String × DataW Unit) := Rows.fnBoundFloorOnlyMinBandwidthRow.laid

theorem door_met (os : Os) (args : Array Value) : laidMetH Tryd.prog tabs1 ((World.doorLaid Tryd.prog 30 os).forCall (fun _ _ => 0) ⟨#[], args, []⟩).memory :=
  laidMetH_of_parts3 (fuel := 8) (laidMet_of_run' 8 (by kernel_rfl) (by kernel_rfl)) (by kernel_rfl) (by kernel_rfl)

theorem elem_cells {enc : TypeId × Value → Unit} {w : World} {a : Addr} {cs : List Value} {n : Nat} {spare : Nat → Bool} {held : Bool} {pl : List MemPlace} {s : ByteArray} {x : Int} {fb : Bool}
    (hc : w.cells? 0 a 3 = some cs) (ht : DataW.trod enc Tryd.prog w 0 spare held n 35 cs = some (.agg [.lit (.string s.data.toList), .lit (.int .u8 x), .lit (.bool fb)], pl)) :
    w.cell? a = some (.string s) ∧ w.cell? (a.add 1) = some (.int .u8 x) ∧ w.cell? (a.add 2) = some (.bool fb) := by
  obtain ⟨_, hlen, hcell⟩ := World.cells?_some hc
  have c0 := hcell 0 (by omega)
  have c1 := hcell 1 (by omega)
  have c2 := hcell 2 (by omega)
  obtain ⟨y0, y1, y2, m, hx, _, h0, h1, h2⟩ := Deep.trod_struct3 Tryd.underlying35 ht
  simp only [Prod.mk.injEq, DataW.agg.injEq, List.cons.injEq, and_true] at hx
  have n25 : Tryd.prog.cellsOf 25 = 1 := by kernel_rfl
  have n10 : Tryd.prog.cellsOf 29 = 1 := by kernel_rfl
  have n4 : Tryd.prog.cellsOf 4 = 1 := by kernel_rfl
  match cs, hlen with
  | [v0, v1, v2], _ =>
    obtain ⟨s', e0, rfl, _⟩ := DataW.trod_string Tryd.underlying25 h0
    obtain ⟨k, e1, rfl, _⟩ := DataW.trod_int Tryd.underlying29 h1
    obtain ⟨b, e2, rfl⟩ := DataW.trod_bool Tryd.underlying4 h2
    simp [n25, n10, n4] at e0 e1 e2
    subst e0
    subst e1
    subst e2
    simp only [DataW.lit.injEq, Lit.string.injEq, Lit.int.injEq, Lit.bool.injEq, true_and] at hx
    obtain ⟨⟨hs, rfl, rfl⟩, _⟩ := hx
    obtain rfl : s = s' := by
      obtain ⟨d⟩ := s
      obtain ⟨d'⟩ := s'
      obtain ⟨l⟩ := d
      obtain ⟨l'⟩ := d'
      simp only at hs
      rw [hs]
    exact ⟨by simpa [Addr.add] using c0, by simpa using c1, by simpa using c2⟩

theorem of_laid {W : World} (h0 : laidMetH Tryd.prog tabs1 W) : ∃ b off cap, Tab W b off cap := by
  rw [MakeChecks.laidMetH_plain _ _ _ (by kernel_rfl)] at h0
  obtain ⟨ps, ⟨g0, t0, cs0, f0, p0, q0, hg0, ht0, hv0, hd0, _, _⟩, _, _⟩ := h0
  obtain rfl := Option.some.inj ((show Tryd.prog.globalNamed _ = some 1 by kernel_rfl).symm.trans hg0)
  obtain rfl := Option.some.inj ((show (Tryd.prog.globals[1]?).map (·.type) = some 40 by kernel_rfl).symm.trans ht0)
  rcases Deep.open_slice Tryd.underlying40 hd0 with ⟨_, hx⟩ | ⟨a, len, cap, m, n, D, Pl, hcs, _, _, _, hm, hx, hel⟩
  · simp [Rows.laid_example_com_pathweave_pathweave_route_bounds] at hx
  have c35 : Tryd.prog.cellsOf 35 = 3 := by kernel_rfl
  simp only [Prod.mk.injEq, Rows.laid_example_com_pathweave_pathweave_route_bounds, DataW.slice.injEq] at hx
  obtain ⟨⟨hx1, _⟩, _⟩ := hx
  have hlen : len = 4 := by simpa using (congrArg List.length hx1).symm
  subst hlen
  have hm4 : 4 ≤ m := by simp at hm; omega
  rw [c35] at hel
  have hD : [D 0, D 1, D 2, D 3] = _ := hx1.symm
  simp only [List.cons.injEq, and_true] at hD
  obtain ⟨d0, d1, d2, d3⟩ := hD
  obtain ⟨q0, x0, y0⟩ := hel 0 (by omega)
  obtain ⟨q1, x1, y1⟩ := hel 1 (by omega)
  obtain ⟨q2, x2, y2⟩ := hel 2 (by omega)
  obtain ⟨q3, x3, y3⟩ := hel 3 (by omega)
  rw [d0] at y0
  rw [d1] at y1
  rw [d2] at y2
  rw [d3] at y3
  obtain ⟨a0, a1, a2⟩ := elem_cells (s := nm0) x0 y0
  obtain ⟨b0, b1, b2⟩ := elem_cells (s := nm1) x1 y1
  obtain ⟨g0, g1, g2⟩ := elem_cells (s := nm2) x2 y2
  obtain ⟨h0, h1, h2⟩ := elem_cells (s := nm3) x3 y3
  obtain ⟨b, off, spot⟩ := a
  obtain rfl : spot = none := by simpa [Addr.add] using World.cell?_spot a0
  simp only [add_plain] at *
  refine ⟨b, off, cap, ⟨?_, fun k hk => ?_, fun k hk => ?_, fun k hk => ?_⟩⟩
  · have := World.var?_cell hg0 hv0 0
    rw [Array.eq_one_of_toList hcs] at this
    simpa using this
  all_goals
    match k, hk with
    | 0, _ => assumption
    | 1, _ => assumption
    | 2, _ => assumption
    | 3, _ => assumption

end Go.Proofs.Qxb6609465aDoor
