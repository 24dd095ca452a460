/-
  SEAT b6609319a: the walks of zzBytes_.., (Def).UTF8, sameBytesAsString.
-/
import Derived.Test.Qxb6609319aRows
import Derived.WalkKit
import Derived.WalkSpells
import Derived.WalkSmall
import Derived.Laws.IdiomStrings
import Derived.Deep.QuietTactic
import Derived.BigQuiet
namespace Go.Proofs.Qxb6609319a
open Go.RowKit

set_option maxHeartbeats 400000 in
theorem bytes5 (a b : Int) (m : Bool) (f g : Int) (s : ByteArray) (w : World) (h : s.size ≤ 1048576) :
    Calls Try.prog 5 #[.int .u32 a, .int .u32 b, .bool m, .int .u8 f, .int .u8 g, .string s] w fun e w' => e = .returned (.bool true) ∧ w' = w := by
  go_enter Try.func5, Try.ntmps5
  go_wp2
  go_ret
  exact ⟨rfl, rfl⟩
set_option maxHeartbeats 400000 in
theorem bytes5_no (a b : Int) (m : Bool) (f g : Int) (s : ByteArray) (w : World) (h : 1048576 < s.size) :
    Calls Try.prog 5 #[.int .u32 a, .int .u32 b, .bool m, .int .u8 f, .int .u8 g, .string s] w fun e w' => e = .returned (.bool false) ∧ w' = w := by
  go_enter Try.func5, Try.ntmps5
  go_wp2
  go_ret
  exact ⟨rfl, rfl⟩

set_option maxHeartbeats 1000000 in
theorem avp (c v : Int) (m : Bool) (f : Int) (ao : Option Addr) (n cap : Nat) (w : World) :
    Calls Try.prog 11 #[.agg #[.int .u32 c, .int .u32 v, .bool m, .int .u8 f], .slice ao n cap] w fun e w' =>
      e = .returned (.agg #[.int .u32 c, .int .u32 v, .bool m, .slice ao n cap]) ∧ w' = (w.alloc (.cells #[.int .u32 c, .int .u32 v, .bool m, .int .u8 f] 26)).alloc (.cells #[.int .u32 c, .int .u32 v, .bool m, .slice ao n cap] 29) := by
  go_enter Try.func11, Try.ntmps11
  go_wp2
  exact bodyPost_ret (v := .agg #[.int .u32 c, .int .u32 v, .bool m, .slice ao n cap]) (by simp [results, Try.results11, go_sem]) rfl ⟨rfl, rfl⟩

/-- WHAT A NEW BUFFER IS: block g holds s's bytes, and some zeros, and the mark of a conversion behind them. -/
def Buf (w : World) (g : Nat) (s : ByteArray) : Prop := ∃ cap, w.heap[g]? = some (.cells (bytesRow s cap) 5 ((bytesRow s cap).size, (bytesRow s cap).size + 1))

theorem heap_third (w : World) (A B C D E : Obj) : (((((w.alloc A).alloc B).alloc C).alloc D).alloc E).drew.heap[w.heap.size + 1 + 1]? = some C := by
  have h1 : (((w.alloc A).alloc B).alloc C).heap[((w.alloc A).alloc B).heap.size]? = some C := heap_alloc_new _ _
  have e : ((w.alloc A).alloc B).heap.size = w.heap.size + 1 + 1 := by simp
  rw [e] at h1
  show ((((((w.alloc A).alloc B).alloc C).alloc D).alloc E)).heap[w.heap.size + 1 + 1]? = some C
  rw [Below.heap_alloc _ _ _ (by simp), Below.heap_alloc _ _ _ (by simp)]
  exact h1

set_option maxHeartbeats 1000000 in
theorem utf8 (c v : Int) (m : Bool) (f : Int) (s : ByteArray) (w : World) :
    Calls Try.prog 6 #[.agg #[.int .u32 c, .int .u32 v, .bool m, .int .u8 f], .string s] w fun e w' => ∃ g cap,
      e = .returned (.agg #[.int .u32 c, .int .u32 v, .bool m, .slice (some ⟨g, 0, none⟩) s.size cap]) ∧ w.heap.size ≤ g ∧ Below w.heap.size w w' ∧ Buf w' g s := by
  have hcv := fun (w : World) => run_bytes_of_string (P := Try.prog) w 9 27 5 s Try.underlying9 Try.underlying27 Try.underlying5
  go_enter Try.func6, Try.ntmps6
  go_wp2_with fail
  refine (avp c v m f _ _ _ _).mono ?_
  rintro e w1 ⟨rfl, rfl⟩
  generalize grownCap ((w.alloc (Obj.cells #[Value.int IntKind.u32 c, Value.int IntKind.u32 v, Value.bool m, Value.int IntKind.u8 f] 26)).alloc (Obj.cells #[Value.int IntKind.u32 0, Value.int IntKind.u32 0, Value.bool false, Value.slice none 0 0] 29)) s.size 0 5 = cap
  go_wp2
  refine bodyPost_ret (v := .agg #[.int .u32 c, .int .u32 v, .bool m, .slice (some ⟨w.heap.size + 1 + 1, 0, none⟩) s.size cap]) (by simp [results, Try.results6, go_sem]) rfl ⟨w.heap.size + 1 + 1, cap, rfl, by omega, ?_, cap, heap_third w _ _ _ _ _⟩
  exact (((((Below.refl _ _).alloc (Nat.le_refl _) _).alloc (by simp) _).alloc (by simp; omega) _).alloc (by simp; omega) _).alloc (by simp; omega) _ |>.drew

set_option maxHeartbeats 1000000 in
theorem same_yes (g cap n : Nat) (s : ByteArray) (w : World) (hn : n = s.size) (hs : s.size ≤ 1048576) (hc : ∀ j (hj : j < s.size), w.cell? ⟨g, j, none⟩ = some (.int .u8 s[j].toNat)) :
    Calls Try.prog 7 #[.slice (some ⟨g, 0, none⟩) n cap, .string s] w fun e w' => e = .returned (.bool true) ∧ ∃ q, w' = w.drewN q := by
  subst hn
  go_enter Try.func7, Try.ntmps7
  go_wp2
  go_loopw [5] (fun i wr => ∃ k q : Nat, k ≤ s.size ∧ i = .int .i64 k ∧ wr = w.drewN q) (fun i _ => s.size - (intOf i).toNat)
  case atStart => exact ⟨0, 0, by omega, rfl, rfl⟩
  case round =>
    obtain ⟨k, q, hk, rfl, rfl⟩ := hrel
    by_cases hlt : k < s.size
    · have hln : (k : Int) < (s.size : Int) := by omega
      have h1 := hc k hlt
      clear hc
      go_wp2
      go_quiet (fail)
      go_wp2
      exact ⟨⟨k + 1, q + nq, by omega, by go_num, rfl⟩, by simp [intOf]; omega⟩
    · clear hc
      go_wp2
      go_ret
      exact ⟨rfl, q, rfl⟩

end Go.Proofs.Qxb6609319a
