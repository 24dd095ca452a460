/-
  SEAT b6609280a: the walks of zzIsPrefix, zzReadVarint, zzVarintLen.
-/
import Derived.Test.Qxb6609280aW1
import Derived.Deep.QuietTactic
import Derived.BigQuiet
import Derived.WalkSmall
namespace Go.Proofs.Qxb6609280a
open Go.RowKit

set_option maxHeartbeats 400000 in
theorem isPrefix_none (po so : Option Addr) (pc m sc : Nat) (w : World) :
    Calls Try.prog 16 #[.slice po 0 pc, .slice so m sc] w fun e w' => e = .returned (.bool true) ∧ ∃ q, w' = w.drewN q := by
  go_enter Try.func16, Try.ntmps16
  go_wp2
  go_loop [5] (fun i => i = .int .i64 0) (fun _ => 0)
  case atStart => rfl
  case round =>
    subst hrel
    go_wp2
    go_ret
    exact ⟨rfl, 0, rfl⟩

set_option maxHeartbeats 1000000 in
theorem isPrefix_some (g h n pc m sc : Nat) (zf : Nat → Int) (w : World) (hnm : n ≤ m) (hm : m ≤ 140737488355328)
    (hp : ∀ j, j < n → w.cell? ⟨g, j, none⟩ = some (.int .u8 (zf j))) (hs : ∀ j, j < n → w.cell? ⟨h, j, none⟩ = some (.int .u8 (zf j))) :
    Calls Try.prog 16 #[.slice (some ⟨g, 0, none⟩) n pc, .slice (some ⟨h, 0, none⟩) m sc] w fun e w' => e = .returned (.bool true) ∧ ∃ q, w' = w.drewN q := by
  go_enter Try.func16, Try.ntmps16
  go_wp2
  go_loopw [5] (fun i wr => ∃ k q : Nat, k ≤ n ∧ i = .int .i64 k ∧ wr = w.drewN q) (fun i _ => n - (intOf i).toNat)
  case atStart => exact ⟨0, 0, by omega, rfl, rfl⟩
  case round =>
    obtain ⟨k, q, hk, rfl, rfl⟩ := hrel
    by_cases hlt : k < n
    · have hlm : (k : Int) < (m : Int) := by omega
      have hln : (k : Int) < (n : Int) := by omega
      have h1 := hp k hlt
      have h2 := hs k hlt
      clear hp hs
      generalize zf k = z at *
      go_wp2
      go_quiet (fail)
      go_wp2
      exact ⟨⟨k + 1, q + nq, by omega, by go_num, rfl⟩, by simp [intOf]; omega⟩
    · go_wp2
      go_ret
      exact ⟨rfl, q, rfl⟩

set_option maxHeartbeats 1000000 in
set_option maxRecDepth 100000 in
theorem readVarint (g len cap pos x : Nat) (hx : x < 18446744073709551616) (w : World) (hlen : len ≤ 140737488355328) (hfit : pos + (Lib.uvarint x).length ≤ len)
    (hcell : ∀ j (hj : j < (Lib.uvarint x).length), w.cell? ⟨g, pos + j, none⟩ = some (.int .u8 ((Lib.uvarint x)[j]).toNat)) :
    Calls Try.prog 20 #[.slice (some ⟨g, 0, none⟩) len cap, .int .i64 pos] w fun e w' => e = .returned (.tuple #[.int .u64 x, .int .i64 ((pos + (Lib.uvarint x).length : Nat) : Int), .bool true]) ∧ w' = w := by
  go_enter Try.func20, Try.ntmps20
  go_wp2
  go_loop [7, 8, 9, 10] (fun vx vs vi vn => ∃ (k acc y : Nat) (pre : List UInt8), vx = .int .u64 acc ∧ vs = .int .u64 ((7 * k : Nat) : Int) ∧ vi = .int .i64 ((pos + k : Nat) : Int) ∧ vn = .int .i64 k ∧ Read x k acc y pre) (fun _ _ _ vn => 10 - (intOf vn).toNat)
  case atStart => exact ⟨0, 0, x, [], rfl, rfl, rfl, rfl, Read.start x⟩
  case round =>
    obtain ⟨k, acc, y, pre, rfl, rfl, rfl, rfl, hr⟩ := hrel
    have hk9 := hr.le9 hx
    obtain ⟨hk, hhead⟩ := hr.head
    have hc := hcell k hk
    rw [hhead] at hc
    have hin : pos + k < len := by omega
    clear hcell hhead hfit
    by_cases h128 : 128 ≤ y
    · have eh : headOf y = y % 128 + 128 := by unfold headOf; rw [if_neg (by omega)]
      rw [eh] at hc
      have h8 : k ≤ 8 := by
        by_cases h9 : k = 9
        · subst h9; have := hr.tenth hx; omega
        · omega
      have hnext := hr.next h128
      obtain ⟨c, hcc⟩ : ∃ c, c = y % 128 + 128 := ⟨_, rfl⟩
      rw [← hcc] at hc hnext
      have hor := hr.or_next hx hcc
      have hc1 : 128 ≤ c := by omega
      have hc2 : c < 256 := by omega
      have e9 : ((k : Int) == 9) = false := beq_eq_false_iff_ne.2 (by omega)
      clear hcc eh hr hk
      generalize acc + y % 128 * 2 ^ (7 * k) = acc' at *
      go_wp2
      go_round
      case rel => exact ⟨k + 1, acc', y / 128, pre ++ [c.toUInt8], rfl, by go_num, by go_num, by go_num, hnext⟩
      case measure => simp [intOf]; omega
    · have hlast := hr.last (by omega)
      have eh : headOf y = y := by unfold headOf; rw [if_pos (by omega)]
      rw [eh] at hc
      have hor := hr.or_last hx (by omega)
      have HL : Hid ((Lib.uvarint x).length = k + 1) := hlast
      have hp : 0 < k → 0 < y := hr.pos
      have h9 : k = 9 → y ≤ 1 := by rintro rfl; exact hr.tenth hx
      clear hlast eh hr
      by_cases hk0 : 0 < k
      · have hy0 : 0 < y := hp hk0
        by_cases hk9' : k = 9
        · have hy1 : y ≤ 1 := h9 hk9'
          have e9 : ((k : Int) == 9) = true := beq_iff_eq.2 (by omega)
          clear hp h9 hk9'
          go_wp2
          go_ret3
          exact ⟨by rw [HL.out]; simp [Int.add_assoc], rfl⟩
        · have e9 : ((k : Int) == 9) = false := beq_eq_false_iff_ne.2 (by omega)
          clear hp h9
          go_wp2
          go_ret3
          exact ⟨by rw [HL.out]; simp [Int.add_assoc], rfl⟩
      · have e9 : ((k : Int) == 9) = false := beq_eq_false_iff_ne.2 (by omega)
        clear hp h9
        go_wp2
        go_ret3
        exact ⟨by rw [HL.out]; simp [Int.add_assoc], rfl⟩

set_option maxHeartbeats 400000 in
theorem varintLen (x : Nat) (hx : x < 18446744073709551616) (w : World) :
    Calls Try.prog 22 #[.int .u64 x] w fun e w' => e = .returned (.int .i64 (Lib.uvarint x).length) ∧ w' = w := by
  have hlen := uvarint_len64 x hx
  have hb64 := Lib.bitLen_le x 64 (by omega) hx
  have HL : Hid ((Lib.uvarint x).length = if Lib.bitLen x = 0 then 1 else (Lib.bitLen x + 6) / 7) := hlen
  clear hlen
  generalize hB : Lib.bitLen x = B at *
  have HB : Hid (Lib.bitLen x = B) := hB
  clear hB
  go_enter Try.func22, Try.ntmps22
  go_wp2
  go_loop [0, 3] (fun vx vb => ∃ y k : Nat, vx = .int .u64 y ∧ vb = .int .i64 k ∧ y < 18446744073709551616 ∧ k + Lib.bitLen y = B) (fun vx _ => (intOf vx).toNat)
  case atStart => exact ⟨x, 0, rfl, rfl, hx, by rw [HB.out]; omega⟩
  case round =>
    obtain ⟨y, k, rfl, rfl, hy, hk⟩ := hrel
    have hkB : k ≤ B := by omega
    by_cases hy0 : y = 0
    · have HK : Hid (k = B) := by rw [hy0] at hk; exact hk
      subst hy0
      clear hk
      by_cases hB0 : k = 0
      · have HL2 : Hid ((Lib.uvarint x).length = 1) := by
          have e : B = 0 := by rw [← HK.out]; exact hB0
          exact HL.out.trans (if_pos e)
        subst hB0
        go_wp2
        go_ret
        exact ⟨by rw [HL2.out]; rfl, rfl⟩
      · have HL2 : Hid ((Lib.uvarint x).length = (k + 6) / 7) := by
          rw [← HK.out] at HL
          exact HL.out.trans (if_neg hB0)
        have e0 : ((k : Int) == 0) = false := beq_eq_false_iff_ne.2 (by omega)
        go_wp2
        go_ret
        exact ⟨by rw [HL2.out]; simp, rfl⟩
    · have HK : Hid (k + 1 + Lib.bitLen (y / 2) = B) := by
        have := Lib.bitLen_half y hy0 hy
        show _ = _
        omega
      have e0 : ((y : Int) != 0) = true := by rw [bne_iff_ne]; omega
      clear hk
      go_wp2
      go_round
      case rel => exact ⟨y / 2, k + 1, by go_num, by go_num, by omega, HK.out⟩
      case measure => simp [intOf]; omega

end Go.Proofs.Qxb6609280a
