/-
  SEAT b6609332aD: the walks of zzParseIndex, zzShortlex, zzCmpInt.
-/
import Derived.Test.Qxb6609332aDoorW3
namespace Go.Proofs.Qxb6609332aDoor
open Go.RowKit

set_option maxHeartbeats 400000 in
theorem cmpInt (i j : Nat) (w : World) : Calls Tryd.prog 13 #[.int .i64 i, .int .i64 j] w fun e w' => e = .returned (.int .i64 (cmpN i j)) ∧ w' = w := by
  unfold cmpN
  by_cases h1 : i < j
  · rw [if_pos h1]
    go_enter Tryd.func13, Tryd.ntmps13
    go_wp2
    go_ret
    exact ⟨rfl, rfl⟩
  · rw [if_neg h1]
    by_cases h2 : j < i
    · rw [if_pos h2]
      go_enter Tryd.func13, Tryd.ntmps13
      go_wp2
      go_ret
      exact ⟨rfl, rfl⟩
    · rw [if_neg h2]
      go_enter Tryd.func13, Tryd.ntmps13
      go_wp2
      go_ret
      exact ⟨rfl, rfl⟩

/-- Where a slice's bytes lie. -/
def At (w : World) (g : Nat) (l : List UInt8) : Prop := ∀ j u, l[j]? = some u → w.cell? ⟨g, j, none⟩ = some (.int .u8 (u.toNat : Int))

theorem At.drewN {w : World} {g : Nat} {l : List UInt8} (h : At w g l) (q : Nat) : At (w.drewN q) g l := h

theorem lex_drop (x y : List UInt8) (k : Nat) (hx : k < x.length) (hy : k < y.length) : lex (x.drop k) (y.drop k) = if x[k].toNat = y[k].toNat then lex (x.drop (k + 1)) (y.drop (k + 1)) else if x[k].toNat < y[k].toNat then -1 else 1 := by
  rw [List.drop_eq_getElem_cons hx, List.drop_eq_getElem_cons hy]
  rfl

theorem drewN3 (w : World) (a b c : Nat) : ((w.drewN a).drewN b).drewN c = w.drewN (a + b + c) := by simp

set_option maxHeartbeats 2000000 in
theorem shortlex_walk (g h n m pc sc : Nat) (x y : List UInt8) (w : World) (hn : n = x.length) (hm : m = y.length) (hnl : n ≤ 1048576) (hml : m ≤ 1048576) (hx : At w g x) (hy : At w h y) :
    Calls Tryd.prog 12 #[.slice (some ⟨g, 0, none⟩) n pc, .slice (some ⟨h, 0, none⟩) m sc] w fun e w' => e = .returned (.int .i64 (shortlex x y)) ∧ ∃ q, w' = w.drewN q := by
  unfold shortlex
  rw [← hn, ← hm]
  by_cases he : n = m
  · rw [if_pos he]
    obtain ⟨L, hL⟩ : ∃ L, L = lex x y := ⟨_, rfl⟩
    rw [← hL]
    have HL : Hid (L = lex (x.drop 0) (y.drop 0)) := hL
    have Hn : Hid (n = x.length) := hn
    have Hm : Hid (n = y.length) := he.trans hm
    subst he
    clear hL hn hm
    go_enter Tryd.func12, Tryd.ntmps12
    go_wp2
    go_loopw [5] (fun i wr => ∃ k q : Nat, k ≤ n ∧ i = .int .i64 k ∧ wr = w.drewN q ∧ L = lex (x.drop k) (y.drop k)) (fun i _ => n - (intOf i).toNat)
    case atStart => exact ⟨0, 0, by omega, rfl, rfl, HL.out⟩
    case round =>
      obtain ⟨k, q, hk, rfl, rfl, hlk⟩ := hrel
      by_cases hlt : k < n
      · have hkx : k < x.length := by have := Hn.out; omega
        have hky : k < y.length := by have := Hm.out; omega
        have hln : (k : Int) < (n : Int) := by omega
        have h1 := hx k _ (List.getElem?_eq_getElem hkx)
        have h2 := hy k _ (List.getElem?_eq_getElem hky)
        rw [lex_drop x y k hkx hky] at hlk
        clear hx hy
        generalize x[k].toNat = a at *
        generalize y[k].toNat = b at *
        by_cases hab : a = b
        · rw [if_pos hab] at hlk
          have HK : Hid (L = lex (x.drop (k + 1)) (y.drop (k + 1))) := hlk
          subst hab
          clear hlk
          go_wp2
          go_quiet (fail)
          go_wp2
          exact ⟨⟨k + 1, q + nq, by omega, by go_num, rfl, HK.out⟩, by simp [intOf]; omega⟩
        · rw [if_neg hab] at hlk
          have hne : ((a : Int) != (b : Int)) = true := by rw [bne_iff_ne]; omega
          by_cases hlt2 : a < b
          · rw [if_pos hlt2] at hlk
            have HK : Hid (L = -1) := hlk
            have hlt3 : (a : Int) < (b : Int) := by omega
            clear hlk
            go_wp2
            go_quiet (fail)
            go_wp2
            go_quiet (fail)
            go_wp2
            go_ret
            exact ⟨by rw [HK.out]; rfl, _, drewN3 _ _ _ _⟩
          · rw [if_neg hlt2] at hlk
            have HK : Hid (L = 1) := hlk
            have hlt3 : ¬ (a : Int) < (b : Int) := by omega
            clear hlk
            go_wp2
            go_quiet (fail)
            go_wp2
            go_quiet (fail)
            go_wp2
            go_ret
            exact ⟨by rw [HK.out]; rfl, _, drewN3 _ _ _ _⟩
      · have HK : Hid (L = 0) := by
          have h1 := Hn.out
          rw [List.drop_eq_nil_of_le (by omega)] at hlk
          exact hlk
        clear hlk
        go_wp2
        go_ret
        exact ⟨by rw [HK.out]; rfl, q, rfl⟩
  · rw [if_neg he]
    have hne : ((n : Int) != (m : Int)) = true := by rw [bne_iff_ne]; omega
    clear hn hm
    by_cases hlt : n < m
    · rw [if_pos hlt]
      go_enter Tryd.func12, Tryd.ntmps12
      go_wp2
      go_ret
      exact ⟨rfl, 0, rfl⟩
    · rw [if_neg hlt]
      go_enter Tryd.func12, Tryd.ntmps12
      go_wp2
      go_ret
      exact ⟨rfl, 0, rfl⟩

/-- What the segment's cells hold. -/
theorem idx_cells {w : World} {g n : Nat} (h : At w g (idx n)) : w.cell? ⟨g, 0, none⟩ = some (.int .u8 91) ∧ (∀ j, j < Lib.nDigits n → w.cell? ⟨g, 1 + j, none⟩ = some (.int .u8 (48 + (digAt n j : Int)))) ∧ w.cell? ⟨g, Lib.nDigits n + 1, none⟩ = some (.int .u8 93) := by
  have hl := Lib.decDigits_length n
  refine ⟨h 0 91 rfl, fun j hj => ?_, ?_⟩
  · have e : (idx n)[1 + j]? = some (UInt8.ofNat (48 + digAt n j)) := by
      unfold idx
      rw [Nat.add_comm, List.getElem?_cons_succ, List.getElem?_append_left (by omega)]
      exact dec_get n j hj
    have := h _ _ e
    rw [digit_nat _ (digAt_lt n j)] at this
    rw [this]
    simp
  · refine h (Lib.nDigits n + 1) 93 ?_
    unfold idx
    rw [List.getElem?_cons_succ, List.getElem?_append_right (by omega), hl]
    simp

set_option maxHeartbeats 2000000 in
theorem parse_walk (g n m cap : Nat) (w : World) (hm : m = Lib.nDigits n) (hml : m ≤ 20) (hn : n ≤ 9223372036854775807) (h : At w g (idx n)) :
    Calls Tryd.prog 11 #[.slice (some ⟨g, 0, none⟩) (m + 2) cap] w fun e w' => e = .returned (.tuple #[.int .i64 n, .bool true]) ∧ w' = w := by
  obtain ⟨c0, cd, cl⟩ := idx_cells h
  have hp := Lib.nDigits_pos n
  have hfd := first_digit n
  have Hg0 : Hid (gat n 0 = 0) := gat_start n
  have Hge : Hid (gat n (Lib.nDigits n) = n) := gat_end n
  have Hgs : Hid (∀ j, j < Lib.nDigits n → gat n (j + 1) = gat n j * 10 + digAt n j) := gat_step n
  rw [← hm] at *
  have c1 : w.cell? ⟨g, 1, none⟩ = some (.int .u8 (48 + (digAt n 0 : Int))) := cd 0 (by omega)
  have hz := digAt_lt n 0
  have Hd : Hid (∀ j, digAt n j < 10) := digAt_lt n
  have Hl : Hid (∀ j, gat n j ≤ n) := gat_le n
  have Hcd : Hid (∀ j, j < m → w.cell? ⟨g, 1 + j, none⟩ = some (.int .u8 (48 + (digAt n j : Int)))) := cd
  clear cd
  generalize digAt n 0 = d0 at *
  have hlen : 0 < d0 ∨ m = 1 := by
    by_cases h1 : d0 = 0
    · exact .inr (hfd h1)
    · exact .inl (by omega)
  clear hfd
  go_enter Tryd.func11, Tryd.ntmps11
  go_wp2
  all_goals
    go_loop [5, 6] (fun v k => ∃ j : Nat, j ≤ m ∧ k = .int .i64 ((1 + j : Nat) : Int) ∧ v = .int .i64 (gat n j)) (fun _ k => m + 1 - (intOf k).toNat)
    case atStart => exact ⟨0, by omega, rfl, by rw [Hg0.out]; rfl⟩
    case round =>
      obtain ⟨j, hj, rfl, rfl⟩ := hrel
      by_cases hlt : j < m
      · have cj := Hcd.out j hlt
        have hd := Hd.out j
        have hs := Hgs.out j hlt
        have hv := Hl.out (j + 1)
        have Hs : Hid (gat n (j + 1) = gat n j * 10 + digAt n j) := hs
        rw [hs] at hv
        clear hs c0 cl c1
        generalize hgj : gat n j = v at *
        generalize digAt n j = d at *
        have hq : (v : Int) ≤ (9223372036854775807 - (d : Int)) / 10 := by omega
        clear hgj
        go_wp2
        go_round
        case rel => exact ⟨j + 1, by omega, by go_num, by rw [Hs.out]; go_num⟩
        case measure => simp [intOf]; omega
      · have hjm : j = m := by omega
        subst hjm
        go_wp2
        go_ret2
        exact ⟨by rw [Hge.out]; rfl, rfl⟩

end Go.Proofs.Qxb6609332aDoor
