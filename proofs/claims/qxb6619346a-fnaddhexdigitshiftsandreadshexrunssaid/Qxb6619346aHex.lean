/-
  The hex digit: contracts of functions 9, 5, 6; the plain facts on the 256 bytes.
-/
import Derived.Test.Qxb6619346aRows
import Derived.WalkKit
import Derived.WalkSpells
namespace Go.Proofs.Qxb6619346a
open Go.RowKit

/-- 'c' is a hex digit of the value 'd'. -/
def Hex (c d : Int) : Prop := (48 ≤ c ∧ c ≤ 57 ∧ d = c - 48) ∨ (97 ≤ c ∧ c ≤ 102 ∧ d = c - 97 + 10) ∨ (65 ≤ c ∧ c ≤ 70 ∧ d = c - 65 + 10)
def NoHex (c : Int) : Prop := ¬ (48 ≤ c ∧ c ≤ 57) ∧ ¬ (97 ≤ c ∧ c ≤ 102) ∧ ¬ (65 ≤ c ∧ c ≤ 70)

theorem Hex.bounds {c d : Int} (h : Hex c d) : 0 ≤ d ∧ d ≤ 15 := by unfold Hex at h; omega
theorem hex_or (c : Int) : NoHex c ∨ ∃ d, Hex c d := by
  by_cases h1 : 48 ≤ c ∧ c ≤ 57
  · exact .inr ⟨_, .inl ⟨h1.1, h1.2, rfl⟩⟩
  · by_cases h2 : 97 ≤ c ∧ c ≤ 102
    · exact .inr ⟨_, .inr (.inl ⟨h2.1, h2.2, rfl⟩)⟩
    · by_cases h3 : 65 ≤ c ∧ c ≤ 70
      · exact .inr ⟨_, .inr (.inr ⟨h3.1, h3.2, rfl⟩)⟩
      · exact .inl ⟨h1, h2, h3⟩

theorem or_zero (d : Int) (h0 : 0 ≤ d) (h1 : d ≤ 15) : bits BinOp.or IntKind.i32 (wrap32 (0 * 16)) d = d := by
  have : d = 0 ∨ d = 1 ∨ d = 2 ∨ d = 3 ∨ d = 4 ∨ d = 5 ∨ d = 6 ∨ d = 7 ∨ d = 8 ∨ d = 9 ∨ d = 10 ∨ d = 11 ∨ d = 12 ∨ d = 13 ∨ d = 14 ∨ d = 15 := by omega
  rcases this with rfl | rfl | rfl | rfl | rfl | rfl | rfl | rfl | rfl | rfl | rfl | rfl | rfl | rfl | rfl | rfl <;> decide +kernel

theorem hex_yes (code c d : Int) (w : World) (h : Hex c d) :
    Calls Try.prog 5 #[.int .i32 code, .int .i32 c] w fun e w' => e = .returned (.tuple #[.int .i32 (bits BinOp.or IntKind.i32 (wrap32 (code * 16)) d), .bool true]) ∧ w = w' := by
  rcases h with ⟨h1, h2, rfl⟩ | ⟨h1, h2, rfl⟩ | ⟨h1, h2, rfl⟩
  all_goals
    go_enter Try.func5, Try.ntmps5
    go_wp2
    go_ret2
    exact ⟨rfl, rfl⟩

theorem hex_no (code c : Int) (w : World) (h : NoHex c) :
    Calls Try.prog 5 #[.int .i32 code, .int .i32 c] w fun e w' => e = .returned (.tuple #[.int .i32 0, .bool false]) ∧ w = w' := by
  obtain ⟨h1, h2, h3⟩ := h
  go_enter Try.func5, Try.ntmps5
  go_wp2
  all_goals
    go_ret2
    exact ⟨rfl, rfl⟩

theorem hex_zero (c d : Int) (w : World) (h : Hex c d) :
    Calls Try.prog 5 #[.int .i32 0, .int .i32 c] w fun e w' => e = .returned (.tuple #[.int .i32 d, .bool true]) ∧ w = w' := by
  have hd := h.bounds
  have := hex_yes 0 c d w h
  rw [or_zero d hd.1 hd.2] at this
  exact this

theorem letter_yes (c : Int) (w : World) (h : (97 ≤ c ∧ c ≤ 122) ∨ (65 ≤ c ∧ c ≤ 90)) :
    Calls Try.prog 6 #[.int .i32 c] w fun e w' => e = .returned (.bool true) ∧ w = w' := by
  rcases h with ⟨h1, h2⟩ | ⟨h1, h2⟩
  all_goals
    go_enter Try.func6, Try.ntmps6
    go_wp2
    go_ret
    exact ⟨rfl, rfl⟩

theorem letter_no (c : Int) (w : World) (h : c < 65) :
    Calls Try.prog 6 #[.int .i32 c] w fun e w' => e = .returned (.bool false) ∧ w = w' := by
  go_enter Try.func6, Try.ntmps6
  go_wp2
  go_ret
  exact ⟨rfl, rfl⟩

/-- The other case of a letter. -/
theorem xor_case (b : Nat) (d : Int) (h : Hex b d) (hl : 65 ≤ b) : Hex (bits BinOp.xor IntKind.i32 (b : Int) 32) d := by
  unfold Hex at h
  have hb : b = 65 ∨ b = 66 ∨ b = 67 ∨ b = 68 ∨ b = 69 ∨ b = 70 ∨ b = 97 ∨ b = 98 ∨ b = 99 ∨ b = 100 ∨ b = 101 ∨ b = 102 := by omega
  have hd : d = if 97 ≤ (b : Int) then (b : Int) - 97 + 10 else b - 65 + 10 := by split <;> omega
  subst hd
  rcases hb with rfl | rfl | rfl | rfl | rfl | rfl | rfl | rfl | rfl | rfl | rfl | rfl <;> (unfold Hex; decide +kernel)

/-- How many bytes below b have the value v. -/
def cnt (b v : Nat) : Int := if v < 10 then (if 48 + v < b then 1 else 0) else (if 55 + v < b then 1 else 0) + (if 87 + v < b then 1 else 0)
/-- How many bytes below b are hex digits. -/
def tot (b : Nat) : Int := min ((b : Int) - min 48 b) 10 + min ((b : Int) - min 65 b) 6 + min ((b : Int) - min 97 b) 6
/-- Is the byte ahead of b a hex digit? -/
def st (b : Nat) : Bool := decide ((48 < b ∧ b ≤ 58) ∨ (65 < b ∧ b ≤ 71) ∨ (97 < b ∧ b ≤ 103))

theorem cnt_bounds (b v : Nat) : 0 ≤ cnt b v ∧ cnt b v ≤ 2 := by unfold cnt; repeat' split <;> omega
theorem tot_bounds (b : Nat) : 0 ≤ tot b ∧ tot b ≤ 22 := by unfold tot; omega
theorem cnt_hit (b v : Nat) (h : Hex b v) : cnt (b + 1) v = cnt b v + 1 := by unfold Hex at h; unfold cnt; repeat' split <;> omega
theorem cnt_miss (b v u : Nat) (h : Hex b v) (hu : u < 16) (hne : u ≠ v) : cnt (b + 1) u = cnt b u := by unfold Hex at h; unfold cnt; repeat' split <;> omega
theorem cnt_none (b u : Nat) (h : NoHex b) (hu : u < 16) : cnt (b + 1) u = cnt b u := by unfold NoHex at h; unfold cnt; repeat' split <;> omega
theorem tot_hit (b : Nat) (d : Int) (h : Hex b d) : tot (b + 1) = tot b + 1 := by unfold Hex at h; unfold tot; omega
theorem tot_none (b : Nat) (h : NoHex b) : tot (b + 1) = tot b := by unfold NoHex at h; unfold tot; omega
theorem st_hit (b : Nat) (d : Int) (h : Hex b d) : st (b + 1) = true := by unfold Hex at h; unfold st; simp; omega
theorem st_none (b : Nat) (h : NoHex b) : st (b + 1) = false := by unfold NoHex at h; unfold st; simp; omega
theorem st_next (b : Nat) (d p : Int) (h : Hex b d) (hp : Hex ((b : Int) - 1) p) : d = p + 1 := by unfold Hex at h hp; omega
theorem st_first (b : Nat) (d : Int) (h : Hex b d) (hs : st b = false) : d = 0 ∨ d = 10 := by
  unfold Hex at h; unfold st at hs; simp at hs; omega

/-- The block of the sixteen counts. -/
def CntAt (w : World) (B b : Nat) : Prop := ∃ cur, w.heap[B]? = some (.cells cur 25 (0, 0)) ∧ cur.size = 16 ∧ ∀ v, v < 16 → cur[v]? = some (.int .i64 (cnt b v))
theorem CntAt.cell {w : World} {B b : Nat} (h : CntAt w B b) (v : Nat) (hv : v < 16) : w.cell? ⟨B, v, none⟩ = some (.int .i64 (cnt b v)) := by
  obtain ⟨cur, hb, _, hc⟩ := h
  rw [cell_of_row w B v cur 25 (0, 0) hb]
  exact hc v hv
theorem CntAt.free {w : World} {B b : Nat} (h : CntAt w B b) (v : Nat) : w.frozen? ⟨B, v, none⟩ = false := by
  obtain ⟨cur, hb, _, hc⟩ := h
  exact frozen_of_row w B v cur 25 hb
theorem CntAt.hit {w : World} {B b : Nat} (h : CntAt w B b) (v : Nat) (hv : v < 16) (hx : Hex b v) : CntAt (w.setCell ⟨B, v, none⟩ (.int .i64 (cnt b v + 1))) B (b + 1) := by
  obtain ⟨cur, hb, hs, hc⟩ := h
  refine ⟨_, heap_setCell_same w B v cur 25 _ hb, by simpa using hs, fun u hu => ?_⟩
  rw [Array.getElem?_setIfInBounds]
  by_cases e : v = u
  · subst e
    rw [cnt_hit b v hx]
    simp; omega
  · rw [if_neg e, hc u hu, cnt_miss b v u hx hu (fun h => e h.symm)]
theorem CntAt.none {w : World} {B b : Nat} (h : CntAt w B b) (hx : NoHex b) : CntAt w B (b + 1) := by
  obtain ⟨cur, hb, hs, hc⟩ := h
  exact ⟨cur, hb, hs, fun u hu => by rw [hc u hu, cnt_none b u hx hu]⟩

end Go.Proofs.Qxb6619346a
