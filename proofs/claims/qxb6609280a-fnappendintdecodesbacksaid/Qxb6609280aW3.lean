/-
  SEAT b6609280a: the callees' contracts in the form that the two laws use: nil and not nil in one.
-/
import Derived.Test.Qxb6609280aW2
namespace Go.Proofs.Qxb6609280a
open Go.RowKit

/-- An address as a clone has it. -/
def Head (ao : Option Addr) : Prop := ao = none ∨ ∃ g, ao = some ⟨g, 0, none⟩

theorem Full.later {W w : World} {ao : Option Addr} {len : Nat} {olds : List Value} (h : Full W ao len olds) (hb : Below W.heap.size W w) : Full w ao len olds :=
  ⟨h.nil, h.olen, fun a ha j u hj => by rw [hb.cell (by rw [add_block]; exact h.lt ha hj)]; exact h.cells a ha j u hj⟩

theorem cell_alloc_row (w : World) (cs : List Value) (t : TypeId) (j : Nat) (u : Value) (hj : cs[j]? = some u) : (w.alloc (.cells cs.toArray t)).cell? ⟨w.heap.size, j, none⟩ = some u := by
  have h : (w.alloc (.cells cs.toArray t)).heap[w.heap.size]? = some (.cells cs.toArray t) := heap_alloc_new w _
  unfold World.cell?
  simp only [h]
  simpa using hj

/-- zzCloneBytes at whatever slice: a slice without spare room, the same bytes. -/
theorem clone_any (ao : Option Addr) (len cap : Nat) (zs : List Int) (w : World) (h : Full w ao len (intCells zs)) (hcap : ao = none → cap = 0) (hl : len ≤ 1048576) :
    Calls Try.prog 18 #[.slice ao len cap] w fun e w' => ∃ bo, e = .returned (.slice bo len len) ∧ Head bo ∧ Below w.heap.size w w' ∧ Full w' bo len (intCells zs) := by
  cases ao with
  | none =>
    obtain rfl := h.nil rfl
    obtain rfl := hcap rfl
    refine (clone_nil w).mono ?_
    rintro e w' ⟨rfl, rfl⟩
    exact ⟨none, rfl, .inl rfl, Below.refl _ _, h⟩
  | some x =>
    refine (clone_some x len cap zs w (by rw [← length_intCells]; exact h.olen) (h.cells x rfl) hl).mono ?_
    rintro e w' ⟨rfl, rfl⟩
    refine ⟨some ⟨w.heap.size, 0, none⟩, rfl, .inr ⟨_, rfl⟩, (Below.refl _ _).alloc (Nat.le_refl _) _, ⟨by simp, h.olen, ?_⟩⟩
    intro a ha j u hj
    simp at ha
    subst ha
    rw [Addr.add_lit, Nat.zero_add]
    exact cell_alloc_row w _ 5 j u hj

/-- What has been appended to, where something was: its address, its cells. -/
theorem App.value {W : World} {ao : Option Addr} {len : Nat} {olds : List Value} {w : World} {v : Value} {ks : List Value} (h : App W ao len olds w v ks) (hk : ks ≠ []) :
    ∃ g cap, v = .slice (some ⟨g, 0, none⟩) (len + ks.length) cap ∧ ∀ j u, (olds ++ ks)[j]? = some u → w.cell? ⟨g, j, none⟩ = some u := by
  have hpos : 0 < ks.length := List.length_pos_iff.2 hk
  rcases h.val with ⟨h0, _⟩ | hown
  · exact absurd h0 hk
  · have hown0 := hown
    rcases hown.2 with ⟨_, h0⟩ | ⟨g, cap, cur, hv, _⟩
    · omega
    · refine ⟨g, cap, hv, fun j u hj => ?_⟩
      have := hown0.cells (g := g) (by rw [hv]; rfl) j u hj
      rwa [Addr.add_lit, Nat.zero_add] at this

theorem fieldBytes_ne (f v : Int) : Lib.byteCells (fieldBytes f v) ≠ [] := by
  intro h
  have h1 := congrArg List.length h
  have h2 := Lib.uvarint_pos (keyOf f)
  rw [length_byteCells] at h1
  unfold fieldBytes at h1
  rw [List.length_append, List.length_nil] at h1
  omega

theorem fieldBytes_len (f v : Int) : (fieldBytes f v).length = (Lib.uvarint (keyOf f)).length + (Lib.uvarint (encOf v)).length ∧ (fieldBytes f v).length ≤ 20 := by
  have h1 := Lib.uvarint_length64 (keyOf_lt f)
  have h2 := Lib.uvarint_length64 (encOf_lt v)
  unfold fieldBytes
  rw [List.length_append]
  exact ⟨rfl, by omega⟩

theorem getElem_intCells (zs : List Int) (j : Nat) (hj : j < zs.length) : (intCells zs)[j]? = some (.int .u8 (zs.getD j 0)) := by
  simp [intCells, hj]

theorem getElem_byteCells (l : List UInt8) (j : Nat) (hj : j < l.length) : (Lib.byteCells l)[j]? = some (.int .u8 (l[j]).toNat) := by
  simp [Lib.byteCells, hj]

theorem Full.cellAt {w : World} {g len : Nat} {zs : List Int} (h : Full w (some ⟨g, 0, none⟩) len (intCells zs)) : ∀ j, j < len → w.cell? ⟨g, j, none⟩ = some (.int .u8 (zs.getD j 0)) := by
  intro j hj
  have hol := h.olen
  rw [length_intCells] at hol
  have := h.cells _ rfl j _ (getElem_intCells zs j (by omega))
  rwa [Addr.add_lit, Nat.zero_add] at this

/-- The number that byte j of l is. -/
def byteAt (l : List UInt8) (j : Nat) : Int := ((l.getD j 0).toNat : Int)

theorem getElem_byteCells' (l : List UInt8) (j : Nat) (hj : j < l.length) : (Lib.byteCells l)[j]? = some (.int .u8 (byteAt l j)) := by
  rw [getElem_byteCells l j hj]
  simp [byteAt, hj]

theorem split_cells {w : World} {g len : Nat} {zs : List Int} {l : List UInt8} (hz : zs.length = len) (h : ∀ j u, (intCells zs ++ Lib.byteCells l)[j]? = some u → w.cell? ⟨g, j, none⟩ = some u) :
    (∀ j, j < len → w.cell? ⟨g, j, none⟩ = some (.int .u8 (zs.getD j 0))) ∧ ∀ j, j < l.length → w.cell? ⟨g, len + j, none⟩ = some (.int .u8 (byteAt l j)) := by
  refine ⟨fun j hj => h j _ ?_, fun j hj => h (len + j) _ ?_⟩
  · rw [List.getElem?_append_left (by rw [length_intCells]; omega)]
    exact getElem_intCells zs j (by omega)
  · rw [List.getElem?_append_right (by rw [length_intCells]; omega), length_intCells, hz, Nat.add_sub_cancel_left]
    exact getElem_byteCells' l j hj

theorem Full.head {w : World} {bo : Option Addr} {len : Nat} {zs : List Int} (h : Full w bo len (intCells zs)) (hh : Head bo) : 0 < len → ∃ g, bo = some ⟨g, 0, none⟩ ∧ ∀ j u, (intCells zs)[j]? = some u → w.cell? ⟨g, j, none⟩ = some u := by
  intro hl
  rcases hh with rfl | ⟨g, rfl⟩
  · have := h.nil rfl; omega
  · refine ⟨g, rfl, fun j u hj => ?_⟩
    have := h.cells _ rfl j u hj
    rwa [Addr.add_lit, Nat.zero_add] at this

/-- Where the two varints of a field lie. -/
theorem read_cells {w : World} {g len : Nat} {zs : List Int} {f v : Int} (hz : zs.length = len) (h : ∀ j u, (intCells zs ++ Lib.byteCells (fieldBytes f v))[j]? = some u → w.cell? ⟨g, j, none⟩ = some u) :
    (∀ j (hj : j < (Lib.uvarint (keyOf f)).length), w.cell? ⟨g, len + j, none⟩ = some (.int .u8 ((Lib.uvarint (keyOf f))[j]).toNat)) ∧
    ∀ j (hj : j < (Lib.uvarint (encOf v)).length), w.cell? ⟨g, len + (Lib.uvarint (keyOf f)).length + j, none⟩ = some (.int .u8 ((Lib.uvarint (encOf v))[j]).toNat) := by
  unfold fieldBytes at h
  rw [byteCells_append] at h
  refine ⟨fun j hj => h (len + j) _ ?_, fun j hj => h (len + (Lib.uvarint (keyOf f)).length + j) _ ?_⟩
  · rw [List.getElem?_append_right (by rw [length_intCells]; omega), length_intCells, hz, Nat.add_sub_cancel_left, List.getElem?_append_left (by rw [length_byteCells]; exact hj)]
    exact getElem_byteCells _ j hj
  · rw [List.getElem?_append_right (by rw [length_intCells]; omega), length_intCells, hz, Nat.add_assoc, Nat.add_sub_cancel_left, List.getElem?_append_right (by rw [length_byteCells]; omega), length_byteCells, Nat.add_sub_cancel_left]
    exact getElem_byteCells _ j hj

theorem readVarint_at (p : Int) (g len cap pos x : Nat) (hp : p = (pos : Int)) (hx : x < 18446744073709551616) (w : World) (hlen : len ≤ 140737488355328) (hfit : pos + (Lib.uvarint x).length ≤ len)
    (hcell : ∀ j (hj : j < (Lib.uvarint x).length), w.cell? ⟨g, pos + j, none⟩ = some (.int .u8 ((Lib.uvarint x)[j]).toNat)) :
    Calls Try.prog 20 #[.slice (some ⟨g, 0, none⟩) len cap, .int .i64 p] w fun e w' => e = .returned (.tuple #[.int .u64 x, .int .i64 (p + ((Lib.uvarint x).length : Int)), .bool true]) ∧ w' = w := by
  subst hp
  have h := readVarint g len cap pos x hx w hlen hfit hcell
  rwa [Int.natCast_add] at h

/-- zzIsPrefix where the first slice's cells stand at the second's head. -/
theorem isPrefix_any (bo so : Option Addr) (len pc m sc : Nat) (zs : List Int) (w : World) (hh : Head bo) (hf : Full w bo len (intCells zs)) (hs : 0 < len → ∃ g, so = some ⟨g, 0, none⟩ ∧ ∀ j u, (intCells zs)[j]? = some u → w.cell? ⟨g, j, none⟩ = some u)
    (hlm : len ≤ m) (hm : m ≤ 140737488355328) :
    Calls Try.prog 16 #[.slice bo len pc, .slice so m sc] w fun e w' => e = .returned (.bool true) ∧ ∃ q, w' = w.drewN q := by
  by_cases h0 : len = 0
  · subst h0
    exact isPrefix_none bo so pc m sc w
  · obtain ⟨g, rfl, hg⟩ := hs (by omega)
    have hol := hf.olen
    rw [length_intCells] at hol
    rcases hh with rfl | ⟨b, rfl⟩
    · exact absurd (hf.nil rfl) h0
    · refine isPrefix_some b g len pc m sc (fun j => zs.getD j 0) w hlm hm (fun j hj => ?_) (fun j hj => hg j _ (getElem_intCells zs j (by omega)))
      have := hf.cells _ rfl j _ (getElem_intCells zs j (by omega))
      rwa [Addr.add_lit, Nat.zero_add] at this

end Go.Proofs.Qxb6609280a
