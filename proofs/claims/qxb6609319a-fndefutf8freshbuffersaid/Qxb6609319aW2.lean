/-
  SEAT b6609319a: the walk of the law FnDefUTF8FreshBuffer.
-/
import Derived.Test.Qxb6609319aW1
namespace Go.Proofs.Qxb6609319a
open Go.RowKit

theorem bcell {W w1 : World} (hb : Below W.heap.size W w1) : (∀ b o, b < W.heap.size → w1.cell? ⟨b, o, none⟩ = W.cell? ⟨b, o, none⟩) ∧ (∀ b o, b < W.heap.size → w1.frozen? ⟨b, o, none⟩ = W.frozen? ⟨b, o, none⟩) :=
  ⟨fun b o h => hb.cell (p := ⟨b, o, none⟩) h, fun b o h => hb.frozen (p := ⟨b, o, none⟩) h⟩

/-- Byte j behind k rounds of flipping. -/
def fl (k j : Nat) (b : Int) : Int := if j < k then bits .xor .u8 b 255 else b

/-- WHERE THE LAW STANDS behind k rounds of its first loop: the two results' boxes, the flipped buffer, the other one. -/
structure St (w0 : World) (c v : Int) (m : Bool) (s : ByteArray) (A1 A2 g1 g2 cap1 cap2 k : Nat) (wr : World) : Prop where
  bel : Below w0.heap.size w0 wr
  a10 : wr.cell? ⟨A1, 0, none⟩ = some (.int .u32 c)
  a11 : wr.cell? ⟨A1, 1, none⟩ = some (.int .u32 v)
  a12 : wr.cell? ⟨A1, 2, none⟩ = some (.bool m)
  a13 : wr.cell? ⟨A1, 3, none⟩ = some (.slice (some ⟨g1, 0, none⟩) s.size cap1)
  a20 : wr.cell? ⟨A2, 0, none⟩ = some (.int .u32 c)
  a21 : wr.cell? ⟨A2, 1, none⟩ = some (.int .u32 v)
  a22 : wr.cell? ⟨A2, 2, none⟩ = some (.bool m)
  a23 : wr.cell? ⟨A2, 3, none⟩ = some (.slice (some ⟨g2, 0, none⟩) s.size cap2)
  d1 : ∀ j (hj : j < s.size), wr.cell? ⟨g1, j, none⟩ = some (.int .u8 (fl k j s[j].toNat))
  f1 : ∀ j, j < s.size → wr.frozen? ⟨g1, j, none⟩ = false
  d2 : ∀ j (hj : j < s.size), wr.cell? ⟨g2, j, none⟩ = some (.int .u8 s[j].toNat)

theorem St.drew {w0 : World} {c v : Int} {m : Bool} {s : ByteArray} {A1 A2 g1 g2 cap1 cap2 k : Nat} {wr : World} (h : St w0 c v m s A1 A2 g1 g2 cap1 cap2 k wr) (q : Nat) : St w0 c v m s A1 A2 g1 g2 cap1 cap2 k (wr.drewN q) :=
  ⟨below_drewN h.bel q, h.a10, h.a11, h.a12, h.a13, h.a20, h.a21, h.a22, h.a23, h.d1, h.f1, h.d2⟩

theorem cell_other (wr : World) (g k b o : Nat) (u : Value) (h : b ≠ g ∨ o ≠ k) : (wr.setCell ⟨g, k, none⟩ u).cell? ⟨b, o, none⟩ = wr.cell? ⟨b, o, none⟩ :=
  World.cell?_setCell_other _ _ _ _ (fun e => by
    simp only [Addr.mk.injEq, and_true] at e
    rcases h with h | h
    · exact h e.1.symm
    · exact h e.2.symm)
theorem cell_self (wr : World) (g k : Nat) (u x : Value) (h : wr.cell? ⟨g, k, none⟩ = some x) : (wr.setCell ⟨g, k, none⟩ u).cell? ⟨g, k, none⟩ = some u :=
  World.cell?_setCell_same _ _ _ h

theorem St.store {w0 : World} {c v : Int} {m : Bool} {s : ByteArray} {A1 A2 g1 g2 cap1 cap2 k : Nat} {wr : World} (h : St w0 c v m s A1 A2 g1 g2 cap1 cap2 k wr) (hk : k < s.size)
    (h0 : w0.heap.size ≤ g1) (h1 : A1 ≠ g1) (h2 : A2 ≠ g1) (h3 : g2 ≠ g1) : St w0 c v m s A1 A2 g1 g2 cap1 cap2 (k + 1) (wr.setCell ⟨g1, k, none⟩ (.int .u8 (bits .xor .u8 s[k].toNat 255))) := by
  refine ⟨h.bel.setCell h0 _, ?_, ?_, ?_, ?_, ?_, ?_, ?_, ?_, ?_, ?_, ?_⟩
  · rw [cell_other _ _ _ _ _ _ (.inl h1)]; exact h.a10
  · rw [cell_other _ _ _ _ _ _ (.inl h1)]; exact h.a11
  · rw [cell_other _ _ _ _ _ _ (.inl h1)]; exact h.a12
  · rw [cell_other _ _ _ _ _ _ (.inl h1)]; exact h.a13
  · rw [cell_other _ _ _ _ _ _ (.inl h2)]; exact h.a20
  · rw [cell_other _ _ _ _ _ _ (.inl h2)]; exact h.a21
  · rw [cell_other _ _ _ _ _ _ (.inl h2)]; exact h.a22
  · rw [cell_other _ _ _ _ _ _ (.inl h2)]; exact h.a23
  · intro j hj
    by_cases e : j = k
    · subst e
      rw [cell_self _ _ _ _ _ (h.d1 j hj)]
      simp [fl]
    · rw [cell_other _ _ _ _ _ _ (.inr e), h.d1 j hj]
      have : fl (k + 1) j (s[j].toNat : Int) = fl k j (s[j].toNat : Int) := by
        unfold fl
        by_cases hjk : j < k
        · rw [if_pos hjk, if_pos (by omega)]
        · rw [if_neg hjk, if_neg (by omega)]
      rw [this]
  · intro j hj
    rw [World.frozen?_setCell]
    exact h.f1 j hj
  · intro j hj
    rw [cell_other _ _ _ _ _ _ (.inl h3)]
    exact h.d2 j hj

theorem Buf.lt {w : World} {g : Nat} {s : ByteArray} (h : Buf w g s) : g < w.heap.size := by
  obtain ⟨cap, h⟩ := h
  exact (Array.getElem?_eq_some_iff.1 h).1
theorem Buf.cell {w : World} {g : Nat} {s : ByteArray} (h : Buf w g s) (j : Nat) (hj : j < s.size) : w.cell? ⟨g, j, none⟩ = some (.int .u8 s[j].toNat) := by
  obtain ⟨cap, h⟩ := h
  unfold World.cell?
  simp only [h]
  exact bytesRow_at s cap j hj
theorem Buf.frozen {w : World} {g : Nat} {s : ByteArray} (h : Buf w g s) (j : Nat) (hj : j < s.size) : w.frozen? ⟨g, j, none⟩ = false := by
  obtain ⟨cap, h⟩ := h
  have hl : s.size ≤ (bytesRow s cap).size := by
    unfold bytesRow
    have : s.data.size = s.size := rfl
    simp [this]
  unfold World.frozen?
  simp [h]
  omega
theorem Buf.later {W w : World} {g : Nat} {s : ByteArray} (h : Buf W g s) (hb : Below W.heap.size W w) : Buf w g s := by
  have hl := h.lt
  obtain ⟨cap, h⟩ := h
  exact ⟨cap, by rw [hb.block g hl]; exact h⟩

set_option maxHeartbeats 4000000 in
theorem law (c v : Int) (m : Bool) (f1 f2 : Int) (s : ByteArray) (w : World) (hs : s.size ≤ 1048576) :
    Calls Try.prog 3 #[.int .u32 c, .int .u32 v, .bool m, .int .u8 f1, .int .u8 f2, .string s] w fun e w' => e = .returned (.bool true) ∧ Below w.heap.size w w' := by
  go_enter Try.func3, Try.ntmps3
  go_wp2_with fail
  refine (bytes5 c v m f1 f2 s w hs).mono ?_
  rintro e w' ⟨rfl, hw'⟩
  subst hw'
  go_wp2_with fail
  refine (utf8 c v m f1 s _).mono ?_
  rintro e w1 ⟨g1, cap1, rfl, hg1, hb1, hbuf1⟩
  simp only [World.size_alloc] at hg1
  have hz1 : w'.heap.size + 1 < w1.heap.size := by have := hb1.size; simp at this; omega
  have q0 : w1.cell? ⟨w'.heap.size + 1, 0, none⟩ = some (.int .u32 c) := by rw [hb1.cell (by simp)]; simp
  have q1 : w1.cell? ⟨w'.heap.size + 1, 1, none⟩ = some (.int .u32 v) := by rw [hb1.cell (by simp)]; simp
  have q2 : w1.cell? ⟨w'.heap.size + 1, 2, none⟩ = some (.bool m) := by rw [hb1.cell (by simp)]; simp
  have q3 : w1.cell? ⟨w'.heap.size + 1, 3, none⟩ = some (.int .u8 f2) := by rw [hb1.cell (by simp)]; simp
  have hbel1 : Below w'.heap.size w' w1 := (((Below.refl _ _).alloc (Nat.le_refl _) _).alloc (by simp) _).trans (hb1.mono (by simp; omega))
  clear hb1
  go_wp2_with fail
  refine (utf8 c v m f2 s _).mono ?_
  rintro e w2 ⟨g2, cap2, rfl, hg2, hb2, hbuf2⟩
  simp only [World.size_alloc] at hg2
  have hz2 : w1.heap.size < w2.heap.size := by have := hb2.size; simp at this; omega
  have r0 : w2.cell? ⟨w1.heap.size, 0, none⟩ = some (.int .u32 c) := by rw [hb2.cell (by simp)]; simp
  have r1 : w2.cell? ⟨w1.heap.size, 1, none⟩ = some (.int .u32 v) := by rw [hb2.cell (by simp)]; simp
  have r2 : w2.cell? ⟨w1.heap.size, 2, none⟩ = some (.bool m) := by rw [hb2.cell (by simp)]; simp
  have r3 : w2.cell? ⟨w1.heap.size, 3, none⟩ = some (.slice (some ⟨g1, 0, none⟩) s.size cap1) := by rw [hb2.cell (by simp)]; simp
  have hbuf1' : Buf w2 g1 s := (hbuf1.later ((Below.refl _ _).alloc (Nat.le_refl _) _)).later hb2
  have hlt1 := hbuf1.lt
  have hlt2 := hbuf2.lt
  have hst : St w' c v m s w1.heap.size w2.heap.size g1 g2 cap1 cap2 0 (w2.alloc (.cells #[.int .u32 c, .int .u32 v, .bool m, .slice (some ⟨g2, 0, none⟩) s.size cap2] 29)) := by
    have hold : ∀ b o, b < w2.heap.size → (w2.alloc (.cells #[.int .u32 c, .int .u32 v, .bool m, .slice (some ⟨g2, 0, none⟩) s.size cap2] 29)).cell? ⟨b, o, none⟩ = w2.cell? ⟨b, o, none⟩ := fun b o hb => World.cell?_of_block (Below.heap_alloc w2 _ b hb)
    refine ⟨((hbel1.alloc (by omega) _).trans (hb2.mono (by simp; omega))).alloc (by omega) _, ?_, ?_, ?_, ?_, by simp, by simp, by simp, by simp, ?_, ?_, ?_⟩
    · rw [hold _ _ hz2]; exact r0
    · rw [hold _ _ hz2]; exact r1
    · rw [hold _ _ hz2]; exact r2
    · rw [hold _ _ hz2]; exact r3
    · intro j hj; rw [hold _ _ (by omega)]; exact hbuf1'.cell j hj
    · intro j hj; rw [World.frozen?_of_block (w := w2) (Below.heap_alloc w2 _ g1 (by omega))]; exact hbuf1'.frozen j hj
    · intro j hj; rw [hold _ _ (by omega)]; exact hbuf2.cell j hj
  have n0 : w'.heap.size ≤ g1 := by omega
  have n1 : w1.heap.size ≠ g1 := by omega
  have n2 : w2.heap.size ≠ g1 := by omega
  have n3 : g2 ≠ g1 := by omega
  clear q0 q1 q2 q3 r0 r1 r2 hb2 hbuf1 hbuf1' hbuf2 hbel1 hlt1 hlt2 hg1 hg2
  go_wp2_with fail
  clear r3 hz1 hz2
  generalize w2.alloc (.cells #[.int .u32 c, .int .u32 v, .bool m, .slice (some ⟨g2, 0, none⟩) s.size cap2] 29) = W at *
  generalize w1.heap.size = A1 at *
  generalize w2.heap.size = A2 at *
  refine (same_yes g1 cap1 s.size s W rfl hs (fun j hj => hst.d1 j hj)).mono ?_
  rintro e w3 ⟨rfl, q3, rfl⟩
  have a23 := hst.a23
  go_wp2_with fail
  refine (same_yes g2 cap2 s.size s (W.drewN q3) rfl hs (fun j hj => hst.d2 j hj)).mono ?_
  rintro e w4 ⟨rfl, q4, rfl⟩
  clear a23
  have hst0 := hst.drew (q3 + q4)
  go_wp2
  clear hst
  generalize W.drewN (q3 + q4) = W0 at *
  go_loopw [17] (fun i wr => ∃ k : Nat, k ≤ s.size ∧ i = .int .i64 k ∧ St w' c v m s A1 A2 g1 g2 cap1 cap2 k wr) (fun i _ => s.size - (intOf i).toNat)
  case atStart => exact ⟨0, by omega, rfl, hst0⟩
  case round =>
    obtain ⟨k, hk, rfl, hst⟩ := hrel
    have a13 := hst.a13
    by_cases hlt : k < s.size
    · have hln : (k : Int) < (s.size : Int) := by omega
      have hstore := hst.store hlt n0 n1 n2 n3
      have h1 : wr.cell? ⟨g1, k, none⟩ = some (.int .u8 s[k].toNat) := by rw [hst.d1 k hlt]; simp [fl]
      have h2 := hst.f1 k hlt
      clear hst hst0
      go_wp2
      exact ⟨⟨k + 1, by omega, by go_num, hstore⟩, by simp [intOf]; omega⟩
    · have hke : k = s.size := by omega
      subst hke
      clear hst0
      go_wp2
      clear a13
      go_loopw [18] (fun i wx => ∃ k : Nat, k ≤ s.size ∧ i = .int .i64 k ∧ St w' c v m s A1 A2 g1 g2 cap1 cap2 s.size wx) (fun i _ => s.size - (intOf i).toNat)
      case atStart => exact ⟨0, by omega, rfl, hst⟩
      case round =>
        obtain ⟨k, hk2, rfl, hst2⟩ := hrel
        have b13 := hst2.a13
        have b23 := hst2.a23
        clear hst
        by_cases hlt2 : k < s.size
        · have hln2 : (k : Int) < (s.size : Int) := by omega
          have h1 : wr.cell? ⟨g1, k, none⟩ = some (.int .u8 (bits .xor .u8 s[k].toNat 255)) := by rw [hst2.d1 k hlt2]; simp [fl, hlt2]
          have h2 := hst2.d2 k hlt2
          go_wp2
          go_quiet (fail)
          go_wp2
          go_quiet (fail)
          go_wp2
          exact ⟨⟨k + 1, by omega, by go_num, hst2.drew _⟩, by simp [intOf]; omega⟩
        · have b10 := hst2.a10
          have b11 := hst2.a11
          have b12 := hst2.a12
          have b20 := hst2.a20
          have b21 := hst2.a21
          have b22 := hst2.a22
          go_wp2
          go_ret
          exact ⟨rfl, hst2.bel⟩

set_option maxHeartbeats 400000 in
theorem law_long (c v : Int) (m : Bool) (f1 f2 : Int) (s : ByteArray) (w : World) (hs : 1048576 < s.size) :
    Calls Try.prog 3 #[.int .u32 c, .int .u32 v, .bool m, .int .u8 f1, .int .u8 f2, .string s] w fun e w' => e = .returned (.bool true) ∧ Below w.heap.size w w' := by
  go_enter Try.func3, Try.ntmps3
  go_wp2_with fail
  refine (bytes5_no c v m f1 f2 s w hs).mono ?_
  rintro e w' ⟨rfl, hw'⟩
  subst hw'
  go_wp2
  go_ret
  exact ⟨rfl, Below.refl _ _⟩

end Go.Proofs.Qxb6609319a
