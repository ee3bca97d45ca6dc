/-
  The JSON escape: contracts of functions 10, 7, 8; the plain facts on the 256 bytes.
-/
import Derived.Test.Qxb6619346aRows
import Derived.WalkKit
import Derived.WalkSpells
namespace Go.Proofs.Qxb6619346a
open Go.RowKit

/-- 'c' ends an escape that writes 'r'. -/
def Esc (c r : Int) : Prop := (c = 34 ∧ r = 34) ∨ (c = 47 ∧ r = 47) ∨ (c = 92 ∧ r = 92) ∨ (c = 98 ∧ r = 8) ∨ (c = 102 ∧ r = 12) ∨ (c = 110 ∧ r = 10) ∨ (c = 114 ∧ r = 13) ∨ (c = 116 ∧ r = 9)
def NoEsc (c : Int) : Prop := (c == 34) = false ∧ (c == 92) = false ∧ (c == 47) = false ∧ (c == 98) = false ∧ (c == 102) = false ∧ (c == 110) = false ∧ (c == 114) = false ∧ (c == 116) = false

theorem esc_or (c : Int) : NoEsc c ∨ ∃ r, Esc c r := by
  unfold NoEsc Esc
  by_cases h : c = 34 ∨ c = 47 ∨ c = 92 ∨ c = 98 ∨ c = 102 ∨ c = 110 ∨ c = 114 ∨ c = 116
  · right
    rcases h with rfl | rfl | rfl | rfl | rfl | rfl | rfl | rfl
    · exact ⟨34, by decide⟩
    · exact ⟨47, by decide⟩
    · exact ⟨92, by decide⟩
    · exact ⟨8, by decide⟩
    · exact ⟨12, by decide⟩
    · exact ⟨10, by decide⟩
    · exact ⟨13, by decide⟩
    · exact ⟨9, by decide⟩
  · left
    simp only [beq_eq_false_iff_ne]
    omega

theorem esc_yes (c r : Int) (w : World) (h : Esc c r) :
    Calls Try.prog 7 #[.int .i32 c] w fun e w' => e = .returned (.tuple #[.int .i32 r, .bool true]) ∧ w = w' := by
  rcases h with ⟨rfl, rfl⟩ | ⟨rfl, rfl⟩ | ⟨rfl, rfl⟩ | ⟨rfl, rfl⟩ | ⟨rfl, rfl⟩ | ⟨rfl, rfl⟩ | ⟨rfl, rfl⟩ | ⟨rfl, rfl⟩
  all_goals
    go_enter Try.func7, Try.ntmps7
    go_wp2
    go_ret2
    exact ⟨rfl, rfl⟩

theorem esc_no (c : Int) (w : World) (h : NoEsc c) :
    Calls Try.prog 7 #[.int .i32 c] w fun e w' => e = .returned (.tuple #[.int .i32 0, .bool false]) ∧ w = w' := by
  obtain ⟨h1, h2, h3, h4, h5, h6, h7, h8⟩ := h
  go_enter Try.func7, Try.ntmps7
  go_wp2
  go_ret2
  exact ⟨rfl, rfl⟩

theorem good_yes (c r : Int) (w : World) (h : Esc c r) :
    Calls Try.prog 8 #[.int .i32 c, .int .i32 r] w fun e w' => e = .returned (.bool true) ∧ w = w' := by
  rcases h with ⟨rfl, rfl⟩ | ⟨rfl, rfl⟩ | ⟨rfl, rfl⟩ | ⟨rfl, rfl⟩ | ⟨rfl, rfl⟩ | ⟨rfl, rfl⟩ | ⟨rfl, rfl⟩ | ⟨rfl, rfl⟩
  all_goals
    go_enter Try.func8, Try.ntmps8
    go_wp2
    go_ret
    exact ⟨rfl, rfl⟩

/-- How many bytes below b are accepted; how many stand for themselves; which results have been seen. -/
def one (a b : Nat) : Int := if a < b then 1 else 0
def acc (b : Nat) : Int := one 34 b + one 47 b + one 92 b + one 98 b + one 102 b + one 110 b + one 114 b + one 116 b
def slf (b : Nat) : Int := one 34 b + one 47 b + one 92 b
def seenB (b v : Nat) : Bool := decide ((v = 34 ∧ 34 < b) ∨ (v = 47 ∧ 47 < b) ∨ (v = 92 ∧ 92 < b) ∨ (v = 8 ∧ 98 < b) ∨ (v = 12 ∧ 102 < b) ∨ (v = 10 ∧ 110 < b) ∨ (v = 13 ∧ 114 < b) ∨ (v = 9 ∧ 116 < b))

theorem one_step (a b : Nat) : one a (b + 1) = one a b + if a = b then 1 else 0 := by unfold one; repeat' split <;> omega
theorem acc_none (b : Nat) (h : NoEsc b) : acc (b + 1) = acc b := by
  unfold NoEsc at h
  simp only [beq_eq_false_iff_ne] at h
  unfold acc
  simp only [one_step]
  rw [if_neg (by omega), if_neg (by omega), if_neg (by omega), if_neg (by omega), if_neg (by omega), if_neg (by omega), if_neg (by omega), if_neg (by omega)]
  omega
theorem slf_none (b : Nat) (h : NoEsc b) : slf (b + 1) = slf b := by
  unfold NoEsc at h
  simp only [beq_eq_false_iff_ne] at h
  unfold slf
  simp only [one_step]
  rw [if_neg (by omega), if_neg (by omega), if_neg (by omega)]
  omega
theorem seen_none (b v : Nat) (h : NoEsc b) : seenB (b + 1) v = seenB b v := by
  unfold NoEsc at h
  simp only [beq_eq_false_iff_ne] at h
  unfold seenB
  rw [decide_eq_decide]
  omega
theorem seen_other (b r v : Nat) (h : Esc b r) (hv : v ≠ r) : seenB (b + 1) v = seenB b v := by
  unfold Esc at h
  unfold seenB
  rw [decide_eq_decide]
  omega
theorem seen_new (b r : Nat) (h : Esc b r) : seenB (b + 1) r = true := by
  unfold Esc at h
  unfold seenB
  rw [decide_eq_true_iff]
  omega
theorem seen_old (b r : Nat) (h : Esc b r) : seenB b r = false := by
  unfold Esc at h
  unfold seenB
  rw [decide_eq_false_iff_not]
  omega

/-- The block of the 256 bools. -/
def SeenAt (w : World) (B b : Nat) : Prop := ∃ cur, w.heap[B]? = some (.cells cur 29 (0, 0)) ∧ cur.size = 256 ∧ ∀ v, v < 256 → cur[v]? = some (.bool (seenB b v))
theorem SeenAt.cell {w : World} {B b : Nat} (h : SeenAt w B b) (v : Nat) (hv : v < 256) : w.cell? ⟨B, v, none⟩ = some (.bool (seenB b v)) := by
  obtain ⟨cur, hb, _, hc⟩ := h
  rw [cell_of_row w B v cur 29 (0, 0) hb]
  exact hc v hv
theorem SeenAt.free {w : World} {B b : Nat} (h : SeenAt w B b) (v : Nat) : w.frozen? ⟨B, v, none⟩ = false := by
  obtain ⟨cur, hb, _, hc⟩ := h
  exact frozen_of_row w B v cur 29 hb
theorem SeenAt.hit {w : World} {B b : Nat} (h : SeenAt w B b) (r : Nat) (hr : r < 256) (hx : Esc b r) : SeenAt (w.setCell ⟨B, r, none⟩ (.bool true)) B (b + 1) := by
  obtain ⟨cur, hb, hs, hc⟩ := h
  refine ⟨_, heap_setCell_same w B r cur 29 _ hb, by simpa using hs, fun u hu => ?_⟩
  rw [Array.getElem?_setIfInBounds]
  by_cases e : r = u
  · subst e
    rw [seen_new b r hx]
    simp; omega
  · rw [if_neg e, hc u hu, seen_other b r u hx (fun h => e h.symm)]
theorem SeenAt.none {w : World} {B b : Nat} (h : SeenAt w B b) (hx : NoEsc b) : SeenAt w B (b + 1) := by
  obtain ⟨cur, hb, hs, hc⟩ := h
  exact ⟨cur, hb, hs, fun u hu => by rw [hc u hu, seen_none b u hx]⟩
theorem SeenAt.start {w : World} {B : Nat} (h : w.heap[B]? = some (.cells (Array.replicate 256 (.bool false)) 29 (0, 0))) : SeenAt w B 0 := by
  refine ⟨_, h, by simp, fun u hu => ?_⟩
  have : seenB 0 u = false := by unfold seenB; rw [decide_eq_false_iff_not]; omega
  rw [this]
  simp [hu]

end Go.Proofs.Qxb6619346a
