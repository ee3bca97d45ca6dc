/-
  The law FnAddHexDigitShiftsAndReadsHexRuns: its walk.
-/
import Derived.Test.Qxb6619346aHex
namespace Go.Proofs.Qxb6619346a
open Go.RowKit

/-- What a round keeps of 'prevOk' and 'prev'. -/
def Prev (b : Nat) (po pv : Value) : Prop := ∃ p : Int, po = .bool (st b) ∧ pv = .int .i32 p ∧ (st b = true → Hex ((b : Int) - 1) p)

theorem prev_hit (b : Nat) (d : Int) (h : Hex b d) : Prev (b + 1) (.bool true) (.int .i32 d) :=
  ⟨d, by rw [st_hit b d h], rfl, fun _ => by rw [show ((b + 1 : Nat) : Int) - 1 = b by omega]; exact h⟩
theorem prev_none (b : Nat) (p : Int) (h : NoHex b) : Prev (b + 1) (.bool false) (.int .i32 p) :=
  ⟨p, by rw [st_none b h], rfl, fun hs => by rw [st_none b h] at hs; cases hs⟩

theorem st_begin (b : Nat) (d : Int) (h : Hex b d) (hs : st b = false) : (b = 48 ∧ d = (0 : Nat)) ∨ (b = 65 ∧ d = (10 : Nat)) ∨ (b = 97 ∧ d = (10 : Nat)) := by
  unfold Hex at h; unfold st at hs; simp at hs; omega
theorem cnt_start (w : World) : CntAt (w.alloc (.cells #[.int .i64 0, .int .i64 0, .int .i64 0, .int .i64 0, .int .i64 0, .int .i64 0, .int .i64 0, .int .i64 0, .int .i64 0, .int .i64 0, .int .i64 0, .int .i64 0, .int .i64 0, .int .i64 0, .int .i64 0, .int .i64 0] 25)) w.heap.size 0 := by
  refine ⟨_, heap_alloc_new w _, rfl, fun v hv => ?_⟩
  have hc : cnt 0 v = 0 := by unfold cnt; repeat' split <;> omega
  rw [hc]
  match v, hv with
  | 0, _ | 1, _ | 2, _ | 3, _ | 4, _ | 5, _ | 6, _ | 7, _ | 8, _ | 9, _ | 10, _ | 11, _ | 12, _ | 13, _ | 14, _ | 15, _ => rfl
  | v + 16, h => exact absurd h (by omega)

set_option maxHeartbeats 4000000 in
set_option maxRecDepth 100000 in
theorem hex_law (code c : Int) (w : World) :
    Calls Try.prog 3 #[.int .i32 code, .int .i32 c] w fun e w' => e = .returned (.bool true) ∧ Below w.heap.size w w' := by
  rcases hex_or c with h | ⟨d, h⟩
  case' inl =>
    go_enter Try.func3, Try.ntmps3
    go_wp2_with fail
    refine (hex_no code c _ h).mono ?_
    rintro e w1 ⟨rfl, rfl⟩
    go_wp2_with fail
    refine (hex_no 0 c _ h).mono ?_
    rintro e w1 ⟨rfl, rfl⟩
    go_wp2_with fail
  case' inr =>
    obtain ⟨hd0, hd1⟩ := h.bounds
    have hc : 0 ≤ c ∧ c ≤ 127 := by unfold Hex at h; omega
    obtain ⟨hc0, hc1⟩ := hc
    go_enter Try.func3, Try.ntmps3
    go_wp2_with fail
    refine (hex_yes code c d _ h).mono ?_
    rintro e w1 ⟨rfl, rfl⟩
    go_wp2_with fail
    refine (hex_zero c d _ h).mono ?_
    rintro e w1 ⟨rfl, rfl⟩
    go_wp2_with fail
  all_goals
    clear h
    go_loopw [10, 11, 12, 13] (fun t po pv i wr => ∃ b : Nat, b ≤ 256 ∧ i = .int .i32 b ∧ t = .int .i64 (tot b) ∧ Prev b po pv ∧ CntAt wr w.heap.size b ∧ Below w.heap.size w wr) (fun _ _ _ i _ => 256 - (intOf i).toNat)
    case atStart => exact ⟨0, Nat.zero_le _, rfl, rfl, ⟨0, rfl, rfl, fun h => by cases h⟩, cnt_start w, (Below.refl _ _).alloc (Nat.le_refl _) _⟩
    case round =>
      obtain ⟨b, hb, rfl, rfl, ⟨p, rfl, rfl, hp⟩, hC, hB⟩ := hrel
      by_cases hlt : b < 256
      · rcases hex_or (b : Int) with hx | ⟨x, hx⟩
        · have R : Hid _ := And.intro (tot_none b hx) (And.intro (prev_none b p hx) (hC.none hx))
          clear hp hC
          go_wp2_with fail
          refine (hex_no 0 _ _ hx).mono ?_
          rintro e w1 ⟨rfl, rfl⟩
          go_wp2_with fail
          refine (hex_no code _ _ hx).mono ?_
          rintro e w1 ⟨rfl, rfl⟩
          go_wp2_with fail
          go_roundw
          case rel => exact ⟨b + 1, by omega, by go_num, by rw [R.out.1], R.out.2.1, R.out.2.2, hB⟩
          case measure => simp [intOf]; omega
        · cases hs : st b
          · have hd : (b = 48 ∧ x = (0 : Nat)) ∨ (b = 65 ∧ x = (10 : Nat)) ∨ (b = 97 ∧ x = (10 : Nat)) := st_begin b x hx hs
            clear hp hs
            rcases hd with ⟨rfl, rfl⟩ | ⟨rfl, rfl⟩ | ⟨rfl, rfl⟩
            ·
              have hcell := hC.cell (0) (by omega)
              have hfree := hC.free (0)
              obtain ⟨hcb0, hcb1⟩ := cnt_bounds 48 (0)
              obtain ⟨htb0, htb1⟩ := tot_bounds 48
              have R : Hid _ := And.intro (tot_hit 48 _ hx) (And.intro (prev_hit 48 _ hx) (And.intro (hC.hit (0) (by omega) hx) (hB.setCell (p := ⟨w.heap.size, 0, none⟩) (Nat.le_refl _) (.int .i64 (cnt 48 (0) + 1)))))
              clear hC hB
              generalize hct : cnt 48 (0) = cv at *
              generalize htt : tot 48 = tv at *
              clear hct htt
              go_wp2_with fail
              refine (hex_zero _ (0) _ (by unfold Hex; omega)).mono ?_
              rintro e w1 ⟨rfl, rfl⟩
              go_wp2_with fail
              refine (hex_yes code _ (0) _ (by unfold Hex; omega)).mono ?_
              rintro e w1 ⟨rfl, rfl⟩
              go_wp2_with fail
              refine (letter_no _ _ (by omega)).mono ?_
              rintro e w1 ⟨rfl, rfl⟩
              go_wp2_with fail
              go_roundw
              case rel => exact ⟨48 + 1, by omega, by go_num, by rw [R.out.1], R.out.2.1, R.out.2.2.1, R.out.2.2.2⟩
              case measure => simp [intOf]
            ·
              have hcell := hC.cell (10) (by omega)
              have hfree := hC.free (10)
              obtain ⟨hcb0, hcb1⟩ := cnt_bounds 65 (10)
              obtain ⟨htb0, htb1⟩ := tot_bounds 65
              have R : Hid _ := And.intro (tot_hit 65 _ hx) (And.intro (prev_hit 65 _ hx) (And.intro (hC.hit (10) (by omega) hx) (hB.setCell (p := ⟨w.heap.size, 10, none⟩) (Nat.le_refl _) (.int .i64 (cnt 65 (10) + 1)))))
              clear hC hB
              generalize hct : cnt 65 (10) = cv at *
              generalize htt : tot 65 = tv at *
              clear hct htt
              go_wp2_with fail
              refine (hex_zero _ (10) _ (by unfold Hex; omega)).mono ?_
              rintro e w1 ⟨rfl, rfl⟩
              go_wp2_with fail
              refine (hex_yes code _ (10) _ (by unfold Hex; omega)).mono ?_
              rintro e w1 ⟨rfl, rfl⟩
              go_wp2_with fail
              refine (letter_yes _ _ (by omega)).mono ?_
              rintro e w1 ⟨rfl, rfl⟩
              go_wp2_with fail
              refine (hex_yes code _ (10) _ (by unfold Hex; decide +kernel)).mono ?_
              rintro e w1 ⟨rfl, rfl⟩
              go_wp2_with fail
              go_roundw
              case rel => exact ⟨65 + 1, by omega, by go_num, by rw [R.out.1], R.out.2.1, R.out.2.2.1, R.out.2.2.2⟩
              case measure => simp [intOf]
            ·
              have hcell := hC.cell (10) (by omega)
              have hfree := hC.free (10)
              obtain ⟨hcb0, hcb1⟩ := cnt_bounds 97 (10)
              obtain ⟨htb0, htb1⟩ := tot_bounds 97
              have R : Hid _ := And.intro (tot_hit 97 _ hx) (And.intro (prev_hit 97 _ hx) (And.intro (hC.hit (10) (by omega) hx) (hB.setCell (p := ⟨w.heap.size, 10, none⟩) (Nat.le_refl _) (.int .i64 (cnt 97 (10) + 1)))))
              clear hC hB
              generalize hct : cnt 97 (10) = cv at *
              generalize htt : tot 97 = tv at *
              clear hct htt
              go_wp2_with fail
              refine (hex_zero _ (10) _ (by unfold Hex; omega)).mono ?_
              rintro e w1 ⟨rfl, rfl⟩
              go_wp2_with fail
              refine (hex_yes code _ (10) _ (by unfold Hex; omega)).mono ?_
              rintro e w1 ⟨rfl, rfl⟩
              go_wp2_with fail
              refine (letter_yes _ _ (by omega)).mono ?_
              rintro e w1 ⟨rfl, rfl⟩
              go_wp2_with fail
              refine (hex_yes code _ (10) _ (by unfold Hex; decide +kernel)).mono ?_
              rintro e w1 ⟨rfl, rfl⟩
              go_wp2_with fail
              go_roundw
              case rel => exact ⟨97 + 1, by omega, by go_num, by rw [R.out.1], R.out.2.1, R.out.2.2.1, R.out.2.2.2⟩
              case measure => simp [intOf]
          · have hp' := hp hs
            have hxp := st_next b x p hx hp'
            obtain ⟨u, rfl⟩ := Int.eq_ofNat_of_zero_le hp'.bounds.1
            subst hxp
            have hub := hx.bounds.2
            have hlet : b < 65 ∨ (65 ≤ b ∧ ((97 ≤ (b : Int) ∧ (b : Int) ≤ 122) ∨ (65 ≤ (b : Int) ∧ (b : Int) ≤ 90))) := by unfold Hex at hx; omega
            clear hp hp'
            rcases hlet with hl | ⟨hl, hl2⟩
            ·
              have hcell := hC.cell (u + 1) (by omega)
              have hfree := hC.free (u + 1)
              obtain ⟨hcb0, hcb1⟩ := cnt_bounds b (u + 1)
              obtain ⟨htb0, htb1⟩ := tot_bounds b
              have R : Hid _ := And.intro (tot_hit b _ hx) (And.intro (prev_hit b _ hx) (And.intro (hC.hit (u + 1) (by omega) hx) (hB.setCell (p := ⟨w.heap.size, u + 1, none⟩) (Nat.le_refl _) (.int .i64 (cnt b (u + 1) + 1)))))
              clear hC hB
              generalize hct : cnt b (u + 1) = cv at *
              generalize htt : tot b = tv at *
              clear hct htt
              go_wp2_with fail
              refine (hex_zero _ ((u : Int) + 1) _ hx).mono ?_
              rintro e w1 ⟨rfl, rfl⟩
              go_wp2_with fail
              refine (hex_yes code _ ((u : Int) + 1) _ hx).mono ?_
              rintro e w1 ⟨rfl, rfl⟩
              go_wp2_with fail
              refine (letter_no _ _ (by omega)).mono ?_
              rintro e w1 ⟨rfl, rfl⟩
              go_wp2_with fail
              go_roundw
              case rel => exact ⟨b + 1, by omega, by go_num, by rw [R.out.1], R.out.2.1, R.out.2.2.1, R.out.2.2.2⟩
              case measure => simp [intOf]; omega
            · have hxx := xor_case b _ hx hl
              have hcell := hC.cell (u + 1) (by omega)
              have hfree := hC.free (u + 1)
              obtain ⟨hcb0, hcb1⟩ := cnt_bounds b (u + 1)
              obtain ⟨htb0, htb1⟩ := tot_bounds b
              have R : Hid _ := And.intro (tot_hit b _ hx) (And.intro (prev_hit b _ hx) (And.intro (hC.hit (u + 1) (by omega) hx) (hB.setCell (p := ⟨w.heap.size, u + 1, none⟩) (Nat.le_refl _) (.int .i64 (cnt b (u + 1) + 1)))))
              clear hC hB
              generalize hct : cnt b (u + 1) = cv at *
              generalize htt : tot b = tv at *
              clear hct htt
              go_wp2_with fail
              refine (hex_zero _ ((u : Int) + 1) _ hx).mono ?_
              rintro e w1 ⟨rfl, rfl⟩
              go_wp2_with fail
              refine (hex_yes code _ ((u : Int) + 1) _ hx).mono ?_
              rintro e w1 ⟨rfl, rfl⟩
              go_wp2_with fail
              refine (letter_yes _ _ (by omega)).mono ?_
              rintro e w1 ⟨rfl, rfl⟩
              go_wp2_with fail
              refine (hex_yes code _ ((u : Int) + 1) _ hxx).mono ?_
              rintro e w1 ⟨rfl, rfl⟩
              go_wp2_with fail
              go_roundw
              case rel => exact ⟨b + 1, by omega, by go_num, by rw [R.out.1], R.out.2.1, R.out.2.2.1, R.out.2.2.2⟩
              case measure => simp [intOf]; omega
      · obtain rfl : b = 256 := by omega
        have ht : tot 256 = 22 := by unfold tot; omega
        rw [ht]
        clear ht hp hlt hb
        go_wp2_with fail
        obtain ⟨WA, rfl⟩ : ∃ y, y = wr := ⟨_, rfl⟩
        go_loopw [20, 21] (fun i _ wx => ∃ v : Nat, v ≤ 16 ∧ i = .int .i64 v ∧ wx = WA) (fun i _ _ => 16 - (intOf i).toNat)
        case atStart => exact ⟨0, Nat.zero_le _, rfl, rfl⟩
        case round =>
          obtain ⟨v, hv, rfl, hw⟩ := hrel
          subst hw
          by_cases hlt : v < 16
          · have hcell := hC.cell v hlt
            clear hC hB
            by_cases h10 : v < 10
            · rw [show cnt 256 v = 1 by unfold cnt; rw [if_pos h10, if_pos (by omega)]] at hcell
              go_wp2_with fail
              go_roundw
              case rel => exact ⟨v + 1, by omega, by go_num, trivial⟩
              case measure => simp [intOf]; omega
            · rw [show cnt 256 v = 2 by unfold cnt; rw [if_neg h10, if_pos (by omega), if_pos (by omega)]; rfl] at hcell
              go_wp2_with fail
              go_roundw
              case rel => exact ⟨v + 1, by omega, by go_num, trivial⟩
              case measure => simp [intOf]; omega
          · clear hC
            go_wp2_with fail
            refine (hex_zero _ 0 _ (by unfold Hex; omega)).mono ?_
            rintro e w1 ⟨rfl, rfl⟩
            go_wp2_with fail
            refine (hex_zero _ 10 _ (by unfold Hex; omega)).mono ?_
            rintro e w1 ⟨rfl, rfl⟩
            go_wp2
            go_ret
            exact ⟨rfl, hB⟩

end Go.Proofs.Qxb6619346a
