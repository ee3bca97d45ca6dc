/-
  The two bounds: zzBytes (4) and bgpb1SizeOK (5).
-/
import Derived.Test.Qxb6619368aUpd
import Derived.Deep.QuietTactic
import Derived.BigQuiet
namespace Go.Proofs.Qxb6619368a
open Go.RowKit

/-- How many numbers the first k segments hold. -/
def tl (ss : List (List Int)) (k : Nat) : Nat := ((ss.take k).map List.length).sum
theorem tl_succ (ss : List (List Int)) (k : Nat) (h : k < ss.length) : tl ss (k + 1) = tl ss k + (ss.getD k []).length := by
  unfold tl
  rw [List.take_succ_eq_append_getElem h, List.map_append, List.sum_append]
  simp [List.getD, h]

/-- What the bound says: no; or yes, and the numbers are few. -/
def BPost (w : World) (n : Nat) (ss : List (List Int)) (e : Ending) (w' : World) : Prop := ∃ b, e = .returned (.bool b) ∧ w = w' ∧ (b = true → n + tl ss n ≤ 1048576)
theorem bpost_no (w : World) (n : Nat) (ss : List (List Int)) : BPost w n ss (.returned (.bool false)) w := ⟨false, rfl, rfl, fun h => by cases h⟩
theorem bpost_yes {w : World} {n : Nat} {ss : List (List Int)} (h : n + tl ss n ≤ 1048576) : BPost w n ss (.returned (.bool true)) w := ⟨true, rfl, rfl, fun _ => h⟩

set_option maxHeartbeats 4000000 in
set_option maxRecDepth 100000 in
theorem bytes_any (a : Option Addr) (n c : Nat) (ss : List (List Int)) (cut asn org : Int) (lp r un ae ap : Option Addr) (le ce lpm cpm : Nat) (w : World) (hv : View w a n ss) (hr : RView w r) (hu : UView w un) :
    Calls Try.prog 4 #[.slice a n c, .int .i64 cut, .int .u32 asn, .int .u8 org, .pointer lp, .pointer r, .pointer un, .slice ae le ce, .slice ap lpm cpm] w (BPost w n ss) := by
  have hss : ss.length = n := hv.1
  go_enter Try.func4, Try.ntmps4
  go_wp2_with fail
  all_goals (try (go_ret; exact bpost_no _ _ _))
  go_loop [19, 20] (fun z i => ∃ k : Nat, k ≤ n ∧ i = .int .i64 k ∧ n + tl ss k ≤ 1048576 ∧ z = .int .i64 (n + tl ss k : Nat)) (fun _ i => n - (intOf i).toNat)
  case atStart => exact ⟨0, Nat.zero_le _, rfl, by simp [tl]; omega, by simp [tl]⟩
  case round =>
    obtain ⟨k, hk, rfl, hsum, rfl⟩ := hrel
    by_cases hlt : k < n
    · obtain ⟨b, off, t, A, C, s, rfl, hb, hsk, c0, c1, hsg⟩ := hv.at k hlt
      have HT : Hid _ := tl_succ ss k (by omega)
      have HS : Hid _ := hsk
      clear hsk hv hr hu hsg c0
      generalize htk : tl ss k = tk at *
      clear htk
      go_wp2_with fail
      all_goals (try (go_ret; exact bpost_no _ _ _))
      go_round
      case rel =>
        have ht : tl ss (k + 1) = tk + s.length := by rw [HS.out]; exact HT.out
        exact ⟨k + 1, by omega, by go_num, by omega, by rw [ht]; go_num⟩
      case measure => simp [intOf]; omega
    · obtain rfl : n = k := by omega
      generalize hz : n + tl ss n = z at *
      have HZ : Hid _ := hz
      clear hz hv hlt hk hss
      rcases hr with rfl | ⟨b, off, x, y, a1, l1, c1, a2, l2, c2, p, rfl, h0, h1, h2, h3, h4⟩ <;> rcases hu with rfl | ⟨b', off', x', y', a1', l1', c1', p', rfl, h0', h1', h2', h3'⟩
      all_goals
        go_wp2_with fail
        all_goals (try (go_ret; exact bpost_no _ _ _))
        go_loop [19, 21] (fun z i => ∃ k : Nat, k ≤ le ∧ i = .int .i64 k ∧ ∃ q : Int, 0 ≤ q ∧ q ≤ 1048576 ∧ z = .int .i64 q) (fun _ i => le - (intOf i).toNat)
        case atStart => exact ⟨0, Nat.zero_le _, rfl, _, by omega, by omega, rfl⟩
        case round =>
          obtain ⟨k, hk, rfl, q, hq0, hq1, rfl⟩ := hrel
          by_cases hlt : k < le
          · go_wp2_with fail
            all_goals (try (go_ret; exact bpost_no _ _ _))
            go_round
            case rel => exact ⟨k + 1, by omega, by go_num, _, by omega, by omega, rfl⟩
            case measure => simp [intOf]; omega
          · go_wp2_with fail
            all_goals (try (go_ret; exact bpost_no _ _ _))
            go_ret
            exact bpost_yes (by rw [HZ.out]; exact hsum)

/-- The second bound says yes or no; nothing has turned. -/
def SPost (w : World) (e : Ending) (w' : World) : Prop := ∃ b n, e = .returned (.bool b) ∧ w' = w.drewN n
theorem spost (w : World) (b : Bool) (n : Nat) : SPost w (.returned (.bool b)) (w.drewN n) := ⟨b, n, rfl, rfl⟩
theorem spost0 (w : World) (b : Bool) : SPost w (.returned (.bool b)) w := ⟨b, 0, rfl, rfl⟩

set_option maxHeartbeats 4000000 in
set_option maxRecDepth 100000 in
theorem size_any (a : Option Addr) (n c : Nat) (ss : List (List Int)) (r un ae ap : Option Addr) (le ce lpm cpm : Nat) (w : World) (hv : View w a n ss) (hr : RView w r) (hu : UView w un) :
    Calls Try.prog 5 #[.slice a n c, .pointer r, .pointer un, .slice ae le ce, .slice ap lpm cpm] w (SPost w) := by
  have hss : ss.length = n := hv.1
  by_cases hg : lpm ≤ 1048576 ∧ le ≤ 1048576 ∧ n ≤ 1048576
  · obtain ⟨hg1, hg2, hg3⟩ := hg
    rcases hr with rfl | ⟨b, off, x, y, a1, l1, c1, a2, l2, c2, p, rfl, h0, h1, h2, h3, h4⟩
    · rcases hu with rfl | ⟨b', off', x', y', a1', l1', c1', p', rfl, h0', h1', h2', h3'⟩
      all_goals
        go_enter Try.func5, Try.ntmps5
        go_wp2_with fail
        all_goals (try (go_ret; exact spost0 _ _))
        go_loop [11, 12] (fun z i => ∃ k : Nat, k ≤ n ∧ i = .int .i64 k ∧ ∃ q : Int, 0 ≤ q ∧ q ≤ 1048576 ∧ z = .int .i64 q) (fun _ i => n - (intOf i).toNat)
        case atStart => exact ⟨0, Nat.zero_le _, rfl, _, by omega, by omega, rfl⟩
        case round =>
          obtain ⟨k, hk, rfl, q, hq0, hq1, rfl⟩ := hrel
          by_cases hlt : k < n
          · obtain ⟨b, off, t, A, C, s, rfl, hb, hsk, c0, c1, hsg⟩ := hv.at k hlt
            clear hsk hv hsg c0
            go_wp2_with fail
            all_goals (try (go_ret; exact spost0 _ _))
            go_round
            case rel => exact ⟨k + 1, by omega, by go_num, _, by omega, by omega, rfl⟩
            case measure => simp [intOf]; omega
          · go_wp2_with fail
            go_ret
            exact spost0 _ _
    · by_cases hl : l1 ≤ 1048576 ∧ l2 ≤ 1048576
      · obtain ⟨hl1, hl2⟩ := hl
        rcases hu with rfl | ⟨b', off', x', y', a1', l1', c1', p', rfl, h0', h1', h2', h3'⟩
        all_goals
          go_enter Try.func5, Try.ntmps5
          go_wp2_with fail
          all_goals (try (go_ret; exact spost0 _ _))
          go_quiet (fail)
          clear h0 h1 h2 h3 h4
          go_wp2_with fail
          all_goals (try (go_ret; exact spost _ _ _))
          go_loop [11, 12] (fun z i => ∃ k : Nat, k ≤ n ∧ i = .int .i64 k ∧ ∃ q : Int, 0 ≤ q ∧ q ≤ 1048576 ∧ z = .int .i64 q) (fun _ i => n - (intOf i).toNat)
          case atStart => exact ⟨0, Nat.zero_le _, rfl, _, by omega, by omega, rfl⟩
          case round =>
            obtain ⟨k, hk, rfl, q, hq0, hq1, rfl⟩ := hrel
            by_cases hlt : k < n
            · obtain ⟨b, off, t, A, C, s, rfl, hb, hsk, c0, c1, hsg⟩ := hv.at k hlt
              clear hsk hv hsg c0
              go_wp2_with fail
              all_goals (try (go_ret; exact spost _ _ _))
              go_round
              case rel => exact ⟨k + 1, by omega, by go_num, _, by omega, by omega, rfl⟩
              case measure => simp [intOf]; omega
            · go_wp2_with fail
              go_ret
              exact spost _ _ _
      · have hl' : l1 ≤ 1048576 → 1048576 < l2 := by omega
        clear hl hv hu h0 h1 h4
        go_enter Try.func5, Try.ntmps5
        go_wp2_with fail
        all_goals (go_ret; exact spost0 _ _)
  · clear hv hr hu
    go_enter Try.func5, Try.ntmps5
    go_wp2_with fail
    all_goals (go_ret; exact spost0 _ _)

end Go.Proofs.Qxb6619368a
