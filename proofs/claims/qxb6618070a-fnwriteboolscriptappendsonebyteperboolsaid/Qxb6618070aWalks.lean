/-
  The walks of the small callees of 'FnWriteBoolScriptAppendsOneBytePerBool': 4 (the bound), 5, 6 (the clones), 7, 8, 9 (the encoder).
-/
import Derived.Test.Qxb6618070aRows
import Derived.WalkKit
import Derived.WalkSpells
namespace Go.Proofs.Qxb6618070a
open Go.RowKit

theorem Try.info5 : (Try.prog.info? 5).map (fun i => (i.zero, i.size, i.bytes)) = some (some (.int .u8 0), 1, 1) := by kernel_rfl
theorem Try.info4 : (Try.prog.info? 4).map (fun i => (i.zero, i.size, i.bytes)) = some (some (.bool false), 1, 1) := by kernel_rfl

/-- The bound: yes, where the two lengths are small. -/
theorem bound_yes (a0 a1 : Option Addr) (l0 c0 l1 c1 : Nat) (k : Int) (w : World) (h : l0 + l1 ≤ 1048576) :
    Calls Try.prog 4 #[.slice a0 l0 c0, .slice a1 l1 c1, .int .i64 k] w fun e w' => e = .returned (.bool true) ∧ w' = w := by
  go_enter Try.func4, Try.ntmps4
  go_wp2
  go_ret
  exact ⟨rfl, rfl⟩

/-- The bound: no, where they are not. -/
theorem bound_no (a0 a1 : Option Addr) (l0 c0 l1 c1 : Nat) (k : Int) (w : World) (m0 : l0 ≤ maxLen) (m1 : l1 ≤ maxLen) (h : 1048576 < l0 + l1) :
    Calls Try.prog 4 #[.slice a0 l0 c0, .slice a1 l1 c1, .int .i64 k] w fun e w' => e = .returned (.bool false) ∧ w' = w := by
  unfold maxLen at m0 m1
  go_enter Try.func4, Try.ntmps4
  go_wp2
  all_goals (go_ret; exact ⟨rfl, rfl⟩)

/-- ZZNewEncoder: a new block of one cell. -/
theorem new_any (v : Value) (w : World) (hv : ∃ a n c, v = .slice a n c) :
    Calls Try.prog 7 #[v] w fun e w' => e = .returned (.pointer (some ⟨w.heap.size, 0, none⟩)) ∧ w' = w.alloc (.cells #[v] 32) := by
  obtain ⟨a, n, c, rfl⟩ := hv
  go_enter Try.func7, Try.ntmps7
  go_wp2
  go_ret
  exact ⟨rfl, rfl⟩

/-- ZZEncoderBytes: what the one cell holds. -/
theorem bytes_any (b : Nat) (v : Value) (w : World) (h : w.cell? ⟨b, 0, none⟩ = some v) :
    Calls Try.prog 9 #[.pointer (some ⟨b, 0, none⟩)] w fun e w' => e = .returned v ∧ w' = w := by
  go_enter Try.func9, Try.ntmps9
  go_wp2
  go_ret
  exact ⟨rfl, rfl⟩

end Go.Proofs.Qxb6618070a
