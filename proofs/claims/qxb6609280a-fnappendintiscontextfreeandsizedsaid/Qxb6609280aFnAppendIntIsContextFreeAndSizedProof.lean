/-
  SEAT b6609280a: 'Rows.FnAppendIntIsContextFreeAndSizedSaid': the law's walk over the callees' contracts (Qxb6609280aW1, W2, W3), in the frame that the guide's tool wrote for this function.
-/
import Derived.Test.Qxb6609280aRows
import Derived.WalkKit
import Derived.ProofKit
import Derived.OpenShut
import Derived.ShutString
import Derived.ChangeOld
import Derived.Below
import Derived.Test.Qxb6609280aW3
namespace Go.Proofs.Qxb6609280a.fnAppendIntIsContextFreeAndSized
open Go.ChangeShapes Go.WideShapes Go.ChangeAt Go.RowKit
open Go.ChangeMaps (open_string shut_string)
set_option linter.unusedVariables false

theorem own : ownKnob Try.prog.godebug = none := by kernel_rfl
theorem laidOut : laidOutB Try.prog = true := by kernel_rfl

/-- WHAT THE WALK IS TOLD OF A SLICE OF INTEGERS THAT CAME IN: it is nil; or it leads to a row of 'cap' cells, the numbers 'zs' (the first 'len' are its elements, the rest its spare room), each fitting its kind. -/
def IsRow (k : IntKind) (w : World) (a : Option Addr) (len cap : Nat) (zs : List Int) : Prop :=
  (a = none ∧ len = 0 ∧ cap = 0 ∧ zs = []) ∨
  ∃ x, a = some x ∧ len ≤ cap ∧ cap ≤ maxLen ∧ zs.length = cap ∧ (∀ i, i < zs.length → w.cell? (x.add i) = some (.int k (zs.getD i 0))) ∧ ∀ n ∈ zs, (Lit.int k n).wf = true

theorem IsRow.full {w : World} {a : Option Addr} {len cap : Nat} {zs : List Int} (h : IsRow .u8 w a len cap zs) : Full w a len (intCells (zs.take len)) ∧ (a = none → cap = 0) := by
  rcases h with ⟨rfl, rfl, rfl, rfl⟩ | ⟨x, rfl, hlc, _, hz, hcell, _⟩
  · exact ⟨⟨fun _ => rfl, rfl, by simp⟩, fun _ => rfl⟩
  · refine ⟨⟨by simp, by rw [length_intCells, List.length_take]; omega, ?_⟩, by simp⟩
    intro a ha j u hj
    simp at ha
    subst ha
    have hjl : j < (zs.take len).length := by
      have := (List.getElem?_eq_some_iff.1 hj).1
      rwa [length_intCells] at this
    rw [getElem_intCells _ j hjl] at hj
    rw [List.length_take] at hjl
    have e : (zs.take len).getD j 0 = zs.getD j 0 := by
      rw [List.getD_eq_getElem?_getD, List.getD_eq_getElem?_getD, List.getElem?_take, if_pos (by omega)]
    rw [e] at hj
    rw [← hj]
    exact hcell j (by omega)

theorem range_i64 {v : Int} (h : (Lit.int .i64 v).wf = true) : -9223372036854775808 ≤ v ∧ v ≤ 9223372036854775807 := by
  have := bounds_i64 h
  omega

theorem walk_long (a0 : Option Addr) (len0 cap0 : Nat) (f v : Int) (w : World) (hl : 1048576 < len0) :
    Calls Try.prog 5 #[.slice a0 len0 cap0, .int .i64 f, .int .i64 v] w fun e w' => e = .returned (.bool true) ∧ w' = w := by
  go_enter Try.func5, Try.ntmps5
  go_wp2_with (go_at_call 21; refine (bytes21_no a0 len0 cap0 f v w hl).mono ?_; rintro e w' ⟨rfl, rfl⟩)
  go_ret
  exact ⟨rfl, rfl⟩

set_option maxHeartbeats 2000000 in
theorem walk_zero (a0 : Option Addr) (len0 cap0 : Nat) (zs : List Int) (f : Int) (w : World) (hf0 : Full w a0 len0 (intCells zs)) (hcap0 : a0 = none → cap0 = 0) (hl : len0 ≤ 1048576) :
    Calls Try.prog 5 #[.slice a0 len0 cap0, .int .i64 f, .int .i64 0] w fun e w' => e = .returned (.bool true) ∧ Below w.heap.size w w' := by
  go_enter Try.func5, Try.ntmps5
  go_wp2_with fail
  refine (bytes21 a0 len0 cap0 f 0 w hl).mono ?_
  rintro e w' ⟨rfl, rfl⟩
  go_wp2_with fail
  refine (clone_any a0 len0 cap0 zs _ hf0 hcap0 hl).mono ?_
  rintro e w1 ⟨bo1, rfl, hh1, hb1, hf1⟩
  go_wp2_with fail
  refine (clone_any bo1 len0 len0 zs w1 hf1 hf1.nil hl).mono ?_
  rintro e w2 ⟨bo2, rfl, hh2, hb2, hf2⟩
  have hf1' := hf1.later hb2
  have hbel := hb1.trans (hb2.mono hb1.size)
  go_wp2_with fail
  refine (appendInt_zero f w2 (.slice bo1 len0 len0)).mono ?_
  rintro e w3 ⟨rfl, rfl⟩
  go_wp2_with fail
  refine (appendInt_zero f _ (.slice none 0 0)).mono ?_
  rintro e w4 ⟨rfl, rfl⟩
  go_wp2
  rcases hh1 with rfl | ⟨g1, rfl⟩
  · obtain rfl := hf1.nil rfl
    go_loopw [11] (fun i wr => i = .int .i64 0 ∧ wr = w4) (fun _ _ => 0)
    case atStart => exact ⟨rfl, rfl⟩
    case round =>
      obtain ⟨rfl, rfl⟩ := hrel
      go_wp2
      go_loopw [12] (fun i wx => i = .int .i64 0 ∧ wx = wr) (fun _ _ => 0)
      case atStart => exact ⟨rfl, rfl⟩
      case round =>
        obtain ⟨rfl, rfl⟩ := hrel
        go_wp2
        go_ret
        exact ⟨rfl, hbel⟩
  · have c1 := hf1'.cellAt
    rcases hh2 with rfl | ⟨g2, rfl⟩
    · obtain rfl := hf2.nil rfl
      go_loopw [11] (fun i wr => i = .int .i64 0 ∧ wr = w4) (fun _ _ => 0)
      case atStart => exact ⟨rfl, rfl⟩
      case round =>
        obtain ⟨rfl, rfl⟩ := hrel
        go_wp2
        go_loopw [12] (fun i wx => i = .int .i64 0 ∧ wx = wr) (fun _ _ => 0)
        case atStart => exact ⟨rfl, rfl⟩
        case round =>
          obtain ⟨rfl, rfl⟩ := hrel
          go_wp2
          go_ret
          exact ⟨rfl, hbel⟩
    · have c2 := hf2.cellAt
      clear hf0 hf1 hf1' hf2 hb1 hb2
      go_loopw [11] (fun i wr => ∃ k q : Nat, k ≤ len0 ∧ i = .int .i64 k ∧ wr = w4.drewN q) (fun i _ => len0 - (intOf i).toNat)
      case atStart => exact ⟨0, 0, by omega, rfl, rfl⟩
      case round =>
        obtain ⟨k, q, hk, rfl, rfl⟩ := hrel
        by_cases hlt : k < len0
        · have hln : (k : Int) < (len0 : Int) := by omega
          have h1 := c1 k hlt
          have h2 := c2 k hlt
          clear c1 c2
          generalize zs.getD k 0 = z at *
          go_wp2
          go_quiet (fail)
          go_wp2
          exact ⟨⟨k + 1, q + nq, by omega, by go_num, rfl⟩, by simp [intOf]; omega⟩
        · clear c1 c2
          go_wp2
          go_loopw [12] (fun i wx => i = .int .i64 0 ∧ wx = w4.drewN q) (fun _ _ => 0)
          case atStart => exact ⟨rfl, rfl⟩
          case round =>
            obtain ⟨rfl, rfl⟩ := hrel
            go_wp2
            go_ret
            exact ⟨rfl, below_drewN hbel q⟩

set_option maxHeartbeats 4000000 in
theorem walk_big (a0 : Option Addr) (len0 cap0 : Nat) (zs : List Int) (f v : Int) (w : World) (hf0 : Full w a0 len0 (intCells zs)) (hcap0 : a0 = none → cap0 = 0) (hl : len0 ≤ 1048576) (hu0 : 0 < encOf v) (hv0 : v ≠ 0) :
    Calls Try.prog 5 #[.slice a0 len0 cap0, .int .i64 f, .int .i64 v] w fun e w' => e = .returned (.bool true) ∧ Below w.heap.size w w' := by
  have hzl : zs.length = len0 := by rw [← length_intCells]; exact hf0.olen
  obtain ⟨hfl, hf20⟩ := fieldBytes_len f v
  have hne := fieldBytes_ne f v
  have hcl := length_byteCells (fieldBytes f v)
  have hv0' : (v != 0) = true := by rw [bne_iff_ne]; exact hv0
  have hkey := key_shl f
  have henc := enc_wrap v
  have hkl := keyOf_lt f
  have hel := encOf_lt v
  have Hzl : Hid (zs.length = len0) := hzl
  have Hfl : Hid ((fieldBytes f v).length = (Lib.uvarint (keyOf f)).length + (Lib.uvarint (encOf v)).length) := hfl
  have Hcl : Hid ((Lib.byteCells (fieldBytes f v)).length = (fieldBytes f v).length) := hcl
  clear hzl hfl hcl hv0
  go_enter Try.func5, Try.ntmps5
  go_wp2_with fail
  refine (bytes21 a0 len0 cap0 f v w hl).mono ?_
  rintro e w' ⟨rfl, rfl⟩
  go_wp2_with fail
  refine (clone_any a0 len0 cap0 zs _ hf0 hcap0 hl).mono ?_
  rintro e w1 ⟨bo1, rfl, hh1, hb1, hf1⟩
  go_wp2_with fail
  refine (clone_any bo1 len0 len0 zs w1 hf1 hf1.nil hl).mono ?_
  rintro e w2 ⟨bo2, rfl, hh2, hb2, hf2⟩
  have hf1' := hf1.later hb2
  have hbel := hb1.trans (hb2.mono hb1.size)
  go_wp2_with fail
  refine (appendInt hf1' f v hu0 w2 (.slice bo1 len0 len0) [] (App.start _ _ _ _) (by simp; omega)).mono ?_
  rintro e w3 ⟨v3, rfl, happ3⟩
  rw [List.nil_append] at happ3
  have hf3 : Full w3 none 0 [] := ⟨fun _ => rfl, rfl, by simp⟩
  go_wp2_with fail
  refine (appendInt hf3 f v hu0 w3 (.slice none 0 0) [] (App.start _ _ _ _) (by simp)).mono ?_
  rintro e w4 ⟨v4, rfl, happ4⟩
  rw [List.nil_append] at happ4
  have hf2' := hf2.later (happ3.bel.trans (happ4.bel.mono happ3.bel.size))
  have hbel4 := hbel.trans ((happ3.bel.trans (happ4.bel.mono happ3.bel.size)).mono hbel.size)
  obtain ⟨g, oc, hv3, hout3⟩ := happ3.value hne
  obtain ⟨h, lc, hv4, hlone⟩ := happ4.value hne
  have hout : ∀ j u, (intCells zs ++ Lib.byteCells (fieldBytes f v))[j]? = some u → w4.cell? ⟨g, j, none⟩ = some u := fun j u hj => by
    have := hout3 j u hj
    rw [happ4.bel.cell (World.block_lt_of_cell? w3 _ this)]
    exact this
  obtain ⟨d1, d2⟩ := split_cells Hzl.out hout
  have e2 : ∀ j, j < (fieldBytes f v).length → w4.cell? ⟨h, j, none⟩ = some (.int .u8 (byteAt (fieldBytes f v) j)) := fun j hj => hlone j _ (by rw [List.nil_append]; exact getElem_byteCells' _ j hj)
  subst hv3 hv4
  rw [Hcl.out, Hfl.out]
  rw [Hfl.out] at d2 e2 hf20
  clear hf0 hf1 hf1' hf2 hb1 hb2 happ3 happ4 hout3 hlone hout hf3 hbel hne Hfl Hcl Hzl
  go_wp2_with fail
  refine (varintLen (keyOf f) hkl w4).mono ?_
  rintro e w5 ⟨rfl, rfl⟩
  go_wp2_with fail
  refine (varintLen (encOf v) hel w5).mono ?_
  rintro e w6 ⟨rfl, rfl⟩
  generalize (Lib.uvarint (keyOf f)).length = n1 at *
  generalize (Lib.uvarint (encOf v)).length = n2 at *
  generalize byteAt (fieldBytes f v) = bf at *
  go_wp2
  rcases hh2 with rfl | ⟨g2, rfl⟩
  · obtain rfl := hf2'.nil rfl
    clear hf2' d1
    simp only [Nat.zero_add] at d2
    go_loopw [11] (fun i wr => i = .int .i64 0 ∧ ∃ q : Nat, wr = w6.drewN q) (fun _ _ => 0)
    case atStart => exact ⟨rfl, 0, rfl⟩
    case round =>
      obtain ⟨rfl, q, rfl⟩ := hrel
      go_wp2
      go_loopw [12] (fun i wx => ∃ k q : Nat, k ≤ n1 + n2 ∧ i = .int .i64 k ∧ wx = w6.drewN q) (fun i _ => n1 + n2 - (intOf i).toNat)
      case atStart => exact ⟨0, q, by omega, rfl, rfl⟩
      case round =>
        obtain ⟨k2, q2, hk2, rfl, rfl⟩ := hrel
        by_cases hlt2 : k2 < n1 + n2
        · have hln2 : (k2 : Int) < (n1 : Int) + (n2 : Int) := by omega
          have h1 := d2 k2 hlt2
          have h2 := e2 k2 hlt2
          clear d2 e2
          generalize bf k2 = z at *
          go_wp2
          go_quiet (fail)
          go_wp2
          exact ⟨⟨k2 + 1, q2 + nq, by omega, by go_num, rfl⟩, by simp [intOf]; omega⟩
        · clear d2 e2
          go_wp2
          go_ret
          exact ⟨rfl, below_drewN hbel4 q2⟩
  · have c1 := hf2'.cellAt
    clear hf2'
    go_loopw [11] (fun i wr => ∃ k q : Nat, k ≤ len0 ∧ i = .int .i64 k ∧ wr = w6.drewN q) (fun i _ => len0 - (intOf i).toNat)
    case atStart => exact ⟨0, 0, by omega, rfl, rfl⟩
    case round =>
      obtain ⟨k, q, hk, rfl, rfl⟩ := hrel
      by_cases hlt : k < len0
      · have hln : (k : Int) < (len0 : Int) := by omega
        have hln1 : (k : Int) < (len0 : Int) + ((n1 : Int) + (n2 : Int)) := by omega
        have h1 := c1 k hlt
        have h2 := d1 k hlt
        clear c1 d1 d2 e2
        generalize zs.getD k 0 = z at *
        go_wp2
        go_quiet (fail)
        go_wp2
        exact ⟨⟨k + 1, q + nq, by omega, by go_num, rfl⟩, by simp [intOf]; omega⟩
      · clear c1 d1
        go_wp2
        go_loopw [12] (fun i wx => ∃ k q : Nat, k ≤ n1 + n2 ∧ i = .int .i64 k ∧ wx = w6.drewN q) (fun i _ => n1 + n2 - (intOf i).toNat)
        case atStart => exact ⟨0, q, by omega, rfl, rfl⟩
        case round =>
          obtain ⟨k2, q2, hk2, rfl, rfl⟩ := hrel
          by_cases hlt2 : k2 < n1 + n2
          · have hln2 : (k2 : Int) < (n1 : Int) + (n2 : Int) := by omega
            have hln3 : (len0 : Int) + (k2 : Int) < (len0 : Int) + ((n1 : Int) + (n2 : Int)) := by omega
            have h1 := d2 k2 hlt2
            have h2 := e2 k2 hlt2
            clear d2 e2
            generalize bf k2 = z at *
            go_wp2
            go_quiet (fail)
            go_wp2
            exact ⟨⟨k2 + 1, q2 + nq, by omega, by go_num, rfl⟩, by simp [intOf]; omega⟩
          · clear d2 e2
            go_wp2
            go_ret
            exact ⟨rfl, below_drewN hbel4 q2⟩

/-! ### THE WALK -/
theorem walk (a0 : Option Addr) (len0 cap0 : Nat) (z0 : List Int) (a1 : Int) (a2 : Int) (w : World) (w0 : IsRow .u8 w a0 len0 cap0 z0) (w1 : (Lit.int .i64 a1).wf = true) (w2 : (Lit.int .i64 a2).wf = true) :
    Calls Try.prog 5 #[.slice a0 len0 cap0, .int .i64 a1, .int .i64 a2] w fun e w' => e = .returned (.bool true) ∧ Below w.heap.size w w' := by
  obtain ⟨hf0, hcap0⟩ := w0.full
  have b2 := range_i64 w2
  by_cases hl : len0 ≤ 1048576
  · by_cases hv : a2 = 0
    · subst hv
      exact walk_zero a0 len0 cap0 (z0.take len0) a1 w hf0 hcap0 hl
    · exact walk_big a0 len0 cap0 (z0.take len0) a1 a2 w hf0 hcap0 hl (encOf_pos hv (by omega) (by omega)) hv
  · refine (walk_long a0 len0 cap0 a1 a2 w (by omega)).mono ?_
    rintro e w' ⟨rfl, rfl⟩
    exact ⟨rfl, Below.refl _ _⟩

/-! ### THE ROW's STEP: WRITTEN OUT: LEAVE IT -/
set_option maxRecDepth 100000 in
theorem lifted (os : Os) (started : os.Started) (H : Type) (enc : TypeId × Value → H) :
    ReturnsInHanded {} Try.checked os 5 .any (Rows.fnAppendIntIsContextFreeAndSizedSpec.pre6 enc Try.prog Try.f5 Rows.fnAppendIntIsContextFreeAndSizedRow.domain false) (Rows.fnAppendIntIsContextFreeAndSizedSpec.post enc Try.prog Try.f5 false true false false) := by
  refine returnsInHanded_of_change (C := Try.checked) own started (by kernel_rfl) Try.func5
    (ChangeSpec.witness6 (enc := enc) (C := Try.checked) false ⟨#[], #[.slice none 0 0, .int .i64 0, .int .i64 0], []⟩ 8 (by kernel_rfl) (by kernel_rfl) (by kernel_rfl) (by kernel_rfl)) ?_
  intro W base args ds gs before hval0 hW hcnd _
  have hval : ∀ (j : Nat) t v, Try.f5.params[j]? = some t → args[j]? = some v → Value.okWide Try.prog W .any base t v := hval0
  have hW' := hW
  obtain ⟨p, q, hA0, hV, rfl, hfz, hnd⟩ := hW
  have hA : DataW.TrodAll enc Try.prog W 0 (fun _ => true) true Try.f5.params.toList args.toList ds p := hA0
  rw [Try.params5] at hA hval
  obtain ⟨v0, vs0, d0, ds0, p0, q0, hargs, rfl, rfl, h0, r0⟩ := trodAll_cons hA
  obtain ⟨v1, vs1, d1, ds1, p1, q1, rfl, rfl, rfl, h1, r1⟩ := trodAll_cons r0
  obtain ⟨v2, vs2, d2, ds2, p2, q2, rfl, rfl, rfl, h2, r2⟩ := trodAll_cons r1
  obtain ⟨rfl, rfl, rfl⟩ := trodAll_nil r2
  obtain rfl : args = #[v0, v1, v2] := by cases args; simp_all
  obtain ⟨rfl, rfl⟩ := trodVars_none hV
  obtain ⟨a0, len0, cap0, rfl⟩ := okWide_slice Try.underlying36 (hval 0 36 v0 rfl rfl)
  have k0 := h0
  have lt0 : ∀ x ∈ p0, x.block < W.heap.size := by obtain ⟨m, hm⟩ := k0; exact DataW.trod_lt m _ _ _ hm
  obtain ⟨z0, w0⟩ : ∃ zs, IsRow .u8 W a0 len0 cap0 zs := by
    obtain ⟨fuel, hf⟩ := h0
    rcases open_ints Try.underlying36 Try.underlying5 (by kernel_rfl) hf with ⟨hcs, _⟩ | ⟨x, l, c, zs, hcs, _, hl, hm, hz, _, hcell, hwz⟩
    · simp [Value.cells] at hcs
      obtain ⟨rfl, rfl, rfl⟩ := hcs
      exact ⟨[], .inl ⟨rfl, rfl, rfl, rfl⟩⟩
    · simp [Value.cells] at hcs
      obtain ⟨rfl, rfl, rfl⟩ := hcs
      exact ⟨zs, .inr ⟨_, rfl, hl, hm, by simpa using hz, hcell, hwz⟩⟩
  obtain ⟨a1, rfl, rfl, rfl, w1⟩ := open_int Try.underlying3 (hval 1 3 v1 rfl rfl) h1
  obtain ⟨a2, rfl, rfl, rfl, w2⟩ := open_int Try.underlying2 (hval 2 2 v2 rfl rfl) h2
  clear hA0 hval0
  refine (walk a0 len0 cap0 z0 a1 a2 W w0 w1 w2).mono fun e W' ⟨he, bel⟩ => ?_
  subst he
  exact ⟨_, rfl, _, _, _, [], _, [], hW', trodAll_mk1 (shut_bool Try.underlying4 _), (trodAll_cons_mk (Below.trod laidOut (by kernel_rfl) (of_decide_eq_true (by kernel_rfl)) k0 bel lt0) (trodAll_cons_mk (shut_int Try.underlying3 w1) (trodAll_cons_mk (shut_int Try.underlying2 w2) trodAll_mk0))), rfl, bel.frame _, fun h => by cases h⟩

theorem over : Rows.fnAppendIntIsContextFreeAndSizedRow.holds Try.pinned (OpenSpec.ofChange Rows.fnAppendIntIsContextFreeAndSizedSpec) :=
  OpenClaim.holds_of_wide 5 Try.f5 rfl rfl rfl rfl rfl rfl rfl ⟨rfl, rfl, rfl, rfl, rfl⟩ rfl rfl rfl rfl rfl (by kernel_rfl) Try.func5 (by kernel_rfl)
    (of_decide_eq_true (by kernel_rfl)) (by unfold Func.isWrapper; first | (rw [if_pos (by decide +kernel)]; kernel_rfl) | (rw [if_neg (by decide +kernel)]; exact ⟨rfl, rfl⟩))
    (fun os started H enc _ => lifted os started H enc)

/-- ████ THE STATEMENT ████ -/
theorem proved : Rows.FnAppendIntIsContextFreeAndSizedSaid := over
#print axioms proved
end Go.Proofs.Qxb6609280a.fnAppendIntIsContextFreeAndSized
