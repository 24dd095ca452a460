/-
  SEAT b6609332aD: the walk of zzDecimal.
-/
import Derived.Test.Qxb6609332aDoorW6
namespace Go.Proofs.Qxb6609332aDoor
open Go.RowKit

/-- THE ARRAY tmp behind j digits of n: its places from 24 - j on hold them. -/
structure Dig (w : World) (T n j : Nat) (wr : World) : Prop where
  bel : Below w.heap.size w wr
  here : ∀ p, p < 24 → ∃ u, wr.cell? ⟨T, p, none⟩ = some u ∧ wr.frozen? ⟨T, p, none⟩ = false
  done : ∀ t, t < j → wr.cell? ⟨T, 23 - t, none⟩ = some (.int .u8 (48 + ((n / 10 ^ t % 10 : Nat) : Int)))

theorem dig_start (w : World) (n : Nat) (Z : Array Value) (hZ : Z.size = 24) : Dig w w.heap.size n 0 (w.alloc (.cells Z 34)) :=
  ⟨(Below.refl _ _).alloc (Nat.le_refl _) _, fun p hp => ⟨_, cell_cur (heap_alloc_new w _) p (by omega), frozen_cur (heap_alloc_new w _) p⟩, fun t ht => by omega⟩

theorem cell_other (wr : World) (g k b o : Nat) (u : Value) (h : b ≠ g ∨ o ≠ k) : (wr.setCell ⟨g, k, none⟩ u).cell? ⟨b, o, none⟩ = wr.cell? ⟨b, o, none⟩ :=
  World.cell?_setCell_other _ _ _ _ (fun e => by
    simp only [Addr.mk.injEq, and_true] at e
    rcases h with h | h
    · exact h e.1.symm
    · exact h e.2.symm)

theorem Dig.store {w : World} {T n j : Nat} {wr : World} (h : Dig w T n j wr) (hT : w.heap.size ≤ T) (hj : j < 24) : Dig w T n (j + 1) (wr.setCell ⟨T, 23 - j, none⟩ (.int .u8 (48 + ((n / 10 ^ j % 10 : Nat) : Int)))) := by
  obtain ⟨u, hu, _⟩ := h.here (23 - j) (by omega)
  have hsame : (wr.setCell ⟨T, 23 - j, none⟩ (.int .u8 (48 + ((n / 10 ^ j % 10 : Nat) : Int)))).cell? ⟨T, 23 - j, none⟩ = some (.int .u8 (48 + ((n / 10 ^ j % 10 : Nat) : Int))) := World.cell?_setCell_same _ _ _ hu
  refine ⟨h.bel.setCell hT _, fun p hp => ?_, fun t ht => ?_⟩
  · obtain ⟨x, hx, hf⟩ := h.here p hp
    by_cases e : p = 23 - j
    · exact ⟨_, by rw [e]; exact hsame, by rw [World.frozen?_setCell]; exact hf⟩
    · exact ⟨x, by rw [cell_other _ _ _ _ _ _ (.inr e)]; exact hx, by rw [World.frozen?_setCell]; exact hf⟩
  · by_cases e : t = j
    · subst e; exact hsame
    · rw [cell_other _ _ _ _ _ _ (.inr (by omega))]
      exact h.done t (by omega)

theorem nd_of (n j : Nat) (hn : 1 ≤ n) (h0 : n / 10 ^ j = 0) (h1 : j = 0 ∨ 10 ^ (j - 1) ≤ n) : Lib.nDigits n = j := by
  have hlt : n < 10 ^ j := (Nat.div_eq_zero_iff_lt (Nat.pow_pos (by decide))).1 h0
  rcases h1 with rfl | h1
  · simp at hlt; omega
  · by_cases hj : j = 0
    · subst hj; simp at hlt; omega
    · have := Lib.nDigits_unique (j - 1) n h1 (by rw [Nat.sub_add_cancel (by omega)]; exact hlt)
      omega

theorem pow_small (n j : Nat) (hn2 : n ≤ 9223372036854775807) (h : 10 ^ j ≤ n) : j ≤ 18 := by
  have : j < 19 := by
    apply Nat.lt_of_not_le
    intro hle
    have h2 : 10 ^ 19 ≤ 10 ^ j := Nat.pow_le_pow_right (by decide) hle
    have h3 : (10 : Nat) ^ 19 = 10000000000000000000 := by decide
    omega
  omega

set_option maxHeartbeats 400000 in
theorem decimal_zero (w : World) : Calls Tryd.prog 9 #[.int .i64 0] w fun e w' => ∃ v', e = .returned v' ∧ w'.ownsRow w.heap.size 5 1 v' (Lib.decDigits 0).length (Lib.byteCells (Lib.decDigits 0)) ∧ Below w.heap.size w w' := by
  have hd : Lib.decDigits 0 = [48] := Lib.decDigits_one (by decide)
  rw [hd]
  go_enter Tryd.func9, Tryd.ntmps9
  go_wp2
  go_ret
  exact ⟨_, rfl, own_mk (Nat.le_refl _) (heap_alloc_new w _) (Nat.le_refl _) (by decide) rfl rfl, (Below.refl _ _).alloc (Nat.le_refl _) _⟩

set_option maxHeartbeats 2000000 in
theorem decimal_pos (n : Nat) (hn : 1 ≤ n) (hn2 : n ≤ 9223372036854775807) (w : World) : Calls Tryd.prog 9 #[.int .i64 n] w fun e w' => ∃ v', e = .returned v' ∧ w'.ownsRow w.heap.size 5 1 v' (Lib.decDigits n).length (Lib.byteCells (Lib.decDigits n)) ∧ Below w.heap.size w w' := by
  have e0 : ((n : Int) == 0) = false := beq_eq_false_iff_ne.2 (by omega)
  go_enter Tryd.func9, Tryd.ntmps9
  go_wp2
  go_loopw [0, 4] (fun vn vk wr => ∃ j p : Nat, vn = .int .i64 ((n / 10 ^ j : Nat) : Int) ∧ vk = .int .i64 p ∧ p = 24 - j ∧ j ≤ 19 ∧ (j = 0 ∨ 10 ^ (j - 1) ≤ n) ∧ Dig w w.heap.size n j wr) (fun vn _ _ => (intOf vn).toNat)
  case atStart => exact ⟨0, 24, by simp, rfl, rfl, by omega, .inl rfl, dig_start w n _ rfl⟩
  case round =>
    obtain ⟨j, p, rfl, rfl, hp, hj, hlow, hd⟩ := hrel
    by_cases hz : n / 10 ^ j = 0
    · have hnd := nd_of n j hn hz hlow
      have hpj : p + j = 24 := by omega
      have hT : w.heap.size < wr.heap.size := by
        obtain ⟨u, hu, _⟩ := hd.here 0 (by omega)
        exact World.block_lt_of_cell? wr _ hu
      obtain ⟨w0, hmk, hown0, hb0⟩ := run_mk0 j (by omega) wr
      have hcell : ∀ t, t < j → wr.cell? ⟨w.heap.size, p + t, none⟩ = some (.int .u8 (48 + (digAt n t : Int))) := fun t ht => by
        have := hd.done (j - 1 - t) (by omega)
        rw [show 23 - (j - 1 - t) = p + t by omega] at this
        rw [this]
        unfold digAt
        rw [hnd]
      have hbytes : ∀ t, t < j → (Lib.byteCells (Lib.decDigits n))[t]? = some (.int .u8 (48 + (digAt n t : Int))) := fun t ht => by
        have := dec_get n t (by omega)
        simp only [Lib.byteCells, List.getElem?_map, this, Option.map_some, digit_nat _ (digAt_lt n t)]
        simp
      have hlen : (Lib.byteCells (Lib.decDigits n)).length = j := by simp [Lib.byteCells, Lib.decDigits_length, hnd]
      have HD : Hid ((Lib.decDigits n).length = j) := by show _ = _; rw [Lib.decDigits_length, hnd]
      obtain ⟨D, hD⟩ : ∃ D, D = Lib.byteCells (Lib.decDigits n) := ⟨_, rfl⟩
      have HDD : Hid (D = Lib.byteCells (Lib.decDigits n)) := hD
      rw [← hD] at hlen hbytes
      have hbel := hd.bel
      have ep : (24 : Int) - (p : Int) = (j : Int) := by omega
      have HP : Hid (p + j = 24) := hpj
      have HL : Hid (D.length = j) := hlen
      have Hb : Hid (∀ t, t < j → D[t]? = some (.int .u8 (48 + (digAt n t : Int)))) := hbytes
      have Hc : Hid (∀ t, t < j → wr.cell? ⟨w.heap.size, p + t, none⟩ = some (.int .u8 (48 + (digAt n t : Int)))) := hcell
      have hp24 : p ≤ 24 := by omega
      clear hnd hpj hcell hbytes hlen hD hp hd hlow e0
      generalize n / 10 ^ j = m at *
      subst hz
      generalize wr = W1 at *
      go_wp2
      go_loopw [5, 6] (fun vo vi wx => ∃ t : Nat, t ≤ j ∧ vi = .int .i64 ((p + t : Nat) : Int) ∧ wx.ownsRow W1.heap.size 5 1 vo t (D.take t) ∧ Below W1.heap.size W1 wx) (fun _ vi _ => 24 - (intOf vi).toNat)
      case atStart => exact ⟨0, by omega, rfl, hown0, hb0⟩
      case round =>
        obtain ⟨t, ht, rfl, hown1, hb1⟩ := hrel
        clear hown0 hb0 hmk
        by_cases hlt : t < j
        · have h1 := Hc.out t hlt
          have h2 : wr.cell? ⟨w.heap.size, p + t, none⟩ = some (.int .u8 (48 + (digAt n t : Int))) := by rw [hb1.cell (p := ⟨w.heap.size, p + t, none⟩) hT]; exact h1
          have hln : (p : Int) + (t : Int) < 24 := by have := HP.out; omega
          have Hs : Hid (D.take t ++ [Value.int .u8 (48 + (digAt n t : Int))] = D.take (t + 1)) := by
            have hl : t < D.length := by have := HL.out; omega
            have e := Hb.out t hlt
            rw [List.getElem?_eq_getElem hl] at e
            simp only [Option.some.injEq] at e
            show _ = _
            rw [List.take_succ_eq_append_getElem hl, e]
          clear h1 ep
          generalize (48 + (digAt n t : Int)) = z at *
          go_wp2_with (at_builtin; refine wpList_app1 _ rfl _ _ rfl rfl (hown1.alloc _) W1 (hb1.alloc hb1.size _) (Nat.le_refl _) ⟨wr.heap.size, 0, none⟩ 1 (Value.int .u8 z) rfl (cell_new _ _ _) rfl (by omega) ?_)
          intro v' w1 hown' hb'
          go_wp2
          go_roundw
          case rel =>
            repeat apply Exists.intro
            exact ⟨⟨t + 1, by omega, by go_num, by rw [← Hs.out]; exact hown', hb'⟩, rfl⟩
          case measure => simp [intOf]; omega
        · have hte : t = j := by omega
          subst hte
          have hge : ¬ (p : Int) + (t : Int) < 24 := by have := HP.out; omega
          rw [List.take_of_length_le (by rw [HL.out]; exact Nat.le_refl _)] at hown1
          clear ep
          go_wp2
          go_ret
          refine ⟨_, rfl, ?_, hbel.trans (hb1.mono hbel.size)⟩
          rw [HD.out, ← HDD.out]
          exact own_base hown1 hbel.size
    · have hle : 10 ^ j ≤ n := by
        apply Nat.le_of_not_lt
        intro h
        exact hz (Nat.div_eq_of_lt h)
      have hj18 := pow_small n j hn2 hle
      have hstore := hd.store (Nat.le_refl _) (by omega)
      obtain ⟨u, hu, hf⟩ := hd.here (23 - j) (by omega)
      have hm2 : n / 10 ^ j ≤ 9223372036854775807 := Nat.le_trans (Nat.div_le_self _ _) hn2
      have Hm : Hid (n / 10 ^ (j + 1) = n / 10 ^ j / 10) := by
        show _ = _
        rw [Nat.pow_succ, ← Nat.div_div_eq_div_mul]
      have hp1 : 23 - j = p - 1 := by omega
      rw [hp1] at hstore hu hf
      have hp5 : 5 ≤ p := by omega
      have hp24 : p ≤ 24 := by omega
      have Hp : Hid (p = 24 - j) := hp
      clear hp hd hp1 e0
      generalize hmm : n / 10 ^ j = m at *
      have hmp : 0 < m := by omega
      clear hmm
      have em : ((m % 10 : Nat) : Int) = (m : Int) % 10 := by omega
      rw [em] at hstore
      clear em
      go_wp2
      exact ⟨⟨j + 1, p - 1, by rw [Hm.out]; go_num, by go_num, by have := Hp.out; omega, by omega, .inr hle, hstore⟩, by simp [intOf]; omega⟩

theorem decimal_any (n : Nat) (hn2 : n ≤ 9223372036854775807) (w : World) : Calls Tryd.prog 9 #[.int .i64 n] w fun e w' => ∃ v', e = .returned v' ∧ w'.ownsRow w.heap.size 5 1 v' (Lib.decDigits n).length (Lib.byteCells (Lib.decDigits n)) ∧ Below w.heap.size w w' := by
  by_cases h : n = 0
  · subst h
    exact decimal_zero w
  · exact decimal_pos n (by omega) hn2 w

end Go.Proofs.Qxb6609332aDoor
