/-
  Slices of strings that are read; the two bounds: zzBytes (4), strsTooBig (5).
-/
import Derived.Test.Qxb6619586aRows
import Derived.WalkKit
import Derived.WalkSpells
namespace Go.Proofs.Qxb6619586a
open Go.RowKit

/-- A slice of strings that is read. -/
def SV (w : World) (a : Option Addr) (n : Nat) (xs : List ByteArray) : Prop :=
  xs.length = n ∧ ((a = none ∧ n = 0) ∨ ∃ x, a = some x ∧ ∀ i, i < n → w.cell? (x.add i) = some (.string (xs.getD i ByteArray.empty)))

theorem SV.kept {w w' : World} {a : Option Addr} {n : Nat} {xs : List ByteArray} (h : SV w a n xs) (hb : Below w.heap.size w w') : SV w' a n xs := by
  refine ⟨h.1, ?_⟩
  rcases h.2 with h2 | ⟨x, rfl, hc⟩
  · exact .inl h2
  · exact .inr ⟨x, rfl, fun i hi => by rw [hb.cell (World.block_lt_of_cell? w _ (hc i hi))]; exact hc i hi⟩

theorem SV.at {w : World} {a : Option Addr} {n : Nat} {xs : List ByteArray} (h : SV w a n xs) (i : Nat) (hi : i < n) :
    ∃ b off, a = some ⟨b, off, none⟩ ∧ b < w.heap.size ∧ w.cell? ⟨b, off + i, none⟩ = some (.string (xs.getD i ByteArray.empty)) := by
  rcases h.2 with ⟨_, h0⟩ | ⟨⟨b, off, sp⟩, rfl, hc⟩
  · omega
  · have g0 := hc 0 (by omega)
    have hsp : sp = none := by simpa [Addr.add] using World.cell?_spot g0
    subst hsp
    have h1 := hc i hi
    rw [Addr.add_lit] at h1
    exact ⟨b, off, rfl, World.block_lt_of_cell? w _ h1, h1⟩

/-- The bound says yes or no; nothing has turned. -/
def Small (xs : List ByteArray) (k : Nat) : Prop := ∀ i, i < k → (xs.getD i ByteArray.empty).size ≤ 1048576
theorem Small.zero (xs : List ByteArray) : Small xs 0 := fun i hi => by omega
theorem Small.succ {xs : List ByteArray} {k : Nat} {s : ByteArray} (h : Small xs k) (hs : xs.getD k ByteArray.empty = s) (hl : s.size ≤ 1048576) : Small xs (k + 1) := fun i hi => by
  by_cases e : i = k
  · subst e; rw [hs]; exact hl
  · exact h i (by omega)
def BPost (w : World) (xs ys : List ByteArray) (n n' : Nat) (e : Ending) (w' : World) : Prop := ∃ b, e = .returned (.bool b) ∧ w = w' ∧ (b = true → Small xs n ∧ Small ys n')
theorem bpost (w : World) (xs ys : List ByteArray) (n n' : Nat) : BPost w xs ys n n' (.returned (.bool false)) w := ⟨false, rfl, rfl, fun h => by cases h⟩
theorem bpost_yes {w : World} {xs ys : List ByteArray} {n n' : Nat} (h1 : Small xs n) (h2 : Small ys n') : BPost w xs ys n n' (.returned (.bool true)) w := ⟨true, rfl, rfl, fun _ => ⟨h1, h2⟩⟩

set_option maxHeartbeats 4000000 in
set_option maxRecDepth 100000 in
theorem bytes_any (ep pk pr po dv : ByteArray) (a a' : Option Addr) (n c n' c' : Nat) (xs ys : List ByteArray) (k : Int) (w : World) (hv : SV w a n xs) (hv' : SV w a' n' ys) :
    Calls Try.prog 4 #[.string ep, .slice a n c, .string pk, .string pr, .string po, .string dv, .slice a' n' c', .int .i64 k] w (BPost w xs ys n n') := by
  go_enter Try.func4, Try.ntmps4
  go_wp2_with fail
  all_goals (try (go_ret; exact bpost _ _ _ _ _))
  go_loop [17, 18] (fun z i => ∃ k : Nat, k ≤ n ∧ i = .int .i64 k ∧ Small xs k ∧ ∃ q : Int, 0 ≤ q ∧ q ≤ 1048576 ∧ z = .int .i64 q) (fun _ i => n - (intOf i).toNat)
  case atStart => exact ⟨0, Nat.zero_le _, rfl, Small.zero _, _, by omega, by omega, rfl⟩
  case round =>
    obtain ⟨k, hk, rfl, HS, q, hq0, hq1, rfl⟩ := hrel
    by_cases hlt : k < n
    · obtain ⟨b, off, rfl, hb, c0⟩ := hv.at k hlt
      clear hv hv'
      generalize hs : xs.getD k ByteArray.empty = s at *
      have HX : Hid _ := hs
      clear hs
      go_wp2_with fail
      all_goals (try (go_ret; exact bpost _ _ _ _ _))
      go_round
      case rel => exact ⟨k + 1, by omega, by go_num, HS.succ HX.out (by omega), _, by omega, by omega, rfl⟩
      case measure => simp [intOf]; omega
    · obtain rfl : n = k := by omega
      clear hv
      go_wp2_with fail
      all_goals (try (go_ret; exact bpost _ _ _ _ _))
      go_loop [17, 19] (fun z i => ∃ k : Nat, k ≤ n' ∧ i = .int .i64 k ∧ Small ys k ∧ ∃ q : Int, 0 ≤ q ∧ q ≤ 1048576 ∧ z = .int .i64 q) (fun _ i => n' - (intOf i).toNat)
      case atStart => exact ⟨0, Nat.zero_le _, rfl, Small.zero _, _, by omega, by omega, rfl⟩
      case round =>
        obtain ⟨k', hk', rfl, HS', q', hq0', hq1', rfl⟩ := hrel
        by_cases hlt' : k' < n'
        · obtain ⟨b, off, rfl, hb, c0⟩ := hv'.at k' hlt'
          clear hv'
          generalize hs : ys.getD k' ByteArray.empty = s at *
          have HX : Hid _ := hs
          clear hs
          go_wp2_with fail
          all_goals (try (go_ret; exact bpost _ _ _ _ _))
          go_round
          case rel => exact ⟨k' + 1, by omega, by go_num, HS'.succ HX.out (by omega), _, by omega, by omega, rfl⟩
          case measure => simp [intOf]; omega
        · obtain rfl : n' = k' := by omega
          go_wp2_with fail
          all_goals (try (go_ret; exact bpost _ _ _ _ _))
          go_ret
          exact bpost_yes HS HS'

/-- How many bytes the first k strings hold, sixteen more counted for each. -/
def tl (xs : List ByteArray) (k : Nat) : Nat := ((xs.take k).map fun x => 16 + x.size).sum
theorem tl_succ (xs : List ByteArray) (k : Nat) (h : k < xs.length) : tl xs (k + 1) = tl xs k + (16 + (xs.getD k ByteArray.empty).size) := by
  unfold tl
  rw [List.take_succ_eq_append_getElem h, List.map_append, List.sum_append]
  simp [List.getD, h]

/-- Too big: or few strings and few bytes. -/
def TPost (w : World) (n : Nat) (xs : List ByteArray) (e : Ending) (w' : World) : Prop := ∃ b, e = .returned (.bool b) ∧ w = w' ∧ (b = false → n ≤ 4096 ∧ tl xs n ≤ 262144)
theorem tpost_yes (w : World) (n : Nat) (xs : List ByteArray) : TPost w n xs (.returned (.bool true)) w := ⟨true, rfl, rfl, fun h => by cases h⟩
theorem tpost_no {w : World} {n : Nat} {xs : List ByteArray} (h1 : n ≤ 4096) (h2 : tl xs n ≤ 262144) : TPost w n xs (.returned (.bool false)) w := ⟨false, rfl, rfl, fun _ => ⟨h1, h2⟩⟩

set_option maxHeartbeats 4000000 in
set_option maxRecDepth 100000 in
theorem big_any (a : Option Addr) (n c : Nat) (xs : List ByteArray) (w : World) (hv : SV w a n xs) (hsm : Small xs n) :
    Calls Try.prog 5 #[.slice a n c, .int .i64 262144] w (TPost w n xs) := by
  have hss : xs.length = n := hv.1
  go_enter Try.func5, Try.ntmps5
  go_wp2_with fail
  all_goals (try (go_ret; exact tpost_yes _ _ _))
  go_loop [5, 6] (fun z i => ∃ k : Nat, k ≤ n ∧ i = .int .i64 k ∧ tl xs k ≤ 262144 ∧ z = .int .i64 (tl xs k : Nat)) (fun _ i => n - (intOf i).toNat)
  case atStart => exact ⟨0, Nat.zero_le _, rfl, by simp [tl], by simp [tl]⟩
  case round =>
    obtain ⟨k, hk, rfl, hsum, rfl⟩ := hrel
    by_cases hlt : k < n
    · obtain ⟨b, off, rfl, hb, c0⟩ := hv.at k hlt
      have HT : Hid _ := tl_succ xs k (by omega)
      have hsz := hsm k hlt
      clear hv hsm
      generalize xs.getD k ByteArray.empty = s at *
      generalize tl xs k = tk at *
      go_wp2_with fail
      all_goals (try (go_ret; exact tpost_yes _ _ _))
      go_round
      case rel => exact ⟨k + 1, by omega, by go_num, by rw [HT.out]; omega, by rw [HT.out]; go_num⟩
      case measure => simp [intOf]; omega
    · obtain rfl : n = k := by omega
      have HS : Hid _ := hsum
      clear hv hsum hsm
      go_wp2_with fail
      go_ret
      exact tpost_no (by omega) HS.out

end Go.Proofs.Qxb6619586a
