/-
  The law FnJsonUnescapeIsInjectiveAndClosed: its walk.
-/
import Derived.Test.Qxb6619346aEsc
namespace Go.Proofs.Qxb6619346a
open Go.RowKit

def zeros : Array Value := Array.replicate 256 (.bool false)
theorem zero29 (w : World) : (zeroValue 29).run Try.prog w = .ok (.agg zeros) w := by kernel_rfl
theorem seen_start (w : World) : SeenAt (w.alloc (.cells zeros 29)) w.heap.size 0 := SeenAt.start (heap_alloc_new w _)

theorem esc_cases (b : Nat) (x : Int) (h : Esc b x) : (b = 34 ∧ x = (34 : Nat)) ∨ (b = 47 ∧ x = (47 : Nat)) ∨ (b = 92 ∧ x = (92 : Nat)) ∨ (b = 98 ∧ x = (8 : Nat)) ∨ (b = 102 ∧ x = (12 : Nat)) ∨ (b = 110 ∧ x = (10 : Nat)) ∨ (b = 114 ∧ x = (13 : Nat)) ∨ (b = 116 ∧ x = (9 : Nat)) := by
  rcases h with ⟨h, rfl⟩ | ⟨h, rfl⟩ | ⟨h, rfl⟩ | ⟨h, rfl⟩ | ⟨h, rfl⟩ | ⟨h, rfl⟩ | ⟨h, rfl⟩ | ⟨h, rfl⟩
  · exact .inl ⟨by omega, rfl⟩
  · exact .inr (.inl ⟨by omega, rfl⟩)
  · exact .inr (.inr (.inl ⟨by omega, rfl⟩))
  · exact .inr (.inr (.inr (.inl ⟨by omega, rfl⟩)))
  · exact .inr (.inr (.inr (.inr (.inl ⟨by omega, rfl⟩))))
  · exact .inr (.inr (.inr (.inr (.inr (.inl ⟨by omega, rfl⟩)))))
  · exact .inr (.inr (.inr (.inr (.inr (.inr (.inl ⟨by omega, rfl⟩))))))
  · exact .inr (.inr (.inr (.inr (.inr (.inr (.inr ⟨by omega, rfl⟩))))))

set_option maxHeartbeats 4000000 in
set_option maxRecDepth 100000 in
theorem esc_law (c : Int) (w : World) :
    Calls Try.prog 4 #[.int .i32 c] w fun e w' => e = .returned (.bool true) ∧ Below w.heap.size w w' := by
  have hz := zero29
  rcases esc_or c with h | ⟨r, h⟩
  case' inl =>
    go_enter Try.func4, Try.ntmps4
    go_wp2_with fail
    refine (esc_no c _ h).mono ?_
    rintro e w1 ⟨rfl, rfl⟩
    clear h
    go_wp2_with fail
  case' inr =>
    have hc : 0 ≤ c ∧ c ≤ 127 := by unfold Esc at h; omega
    obtain ⟨hc0, hc1⟩ := hc
    go_enter Try.func4, Try.ntmps4
    go_wp2_with fail
    refine (esc_yes c r _ h).mono ?_
    rintro e w1 ⟨rfl, rfl⟩
    go_wp2_with fail
    refine (good_yes c r _ h).mono ?_
    rintro e w1 ⟨rfl, rfl⟩
    clear h
    go_wp2_with fail
  all_goals
    clear hz
    go_loopw [5, 6, 8] (fun t s i wr => ∃ b : Nat, b ≤ 256 ∧ i = .int .i32 b ∧ t = .int .i64 (acc b) ∧ s = .int .i64 (slf b) ∧ SeenAt wr w.heap.size b ∧ Below w.heap.size w wr) (fun _ _ i _ => 256 - (intOf i).toNat)
    case atStart => exact ⟨0, Nat.zero_le _, rfl, rfl, rfl, seen_start w, (Below.refl _ _).alloc (Nat.le_refl _) _⟩
    case round =>
      obtain ⟨b, hb, rfl, rfl, rfl, hC, hB⟩ := hrel
      by_cases hlt : b < 256
      · rcases esc_or (b : Int) with hx | ⟨x, hx⟩
        · have R : Hid _ := And.intro (acc_none b hx) (And.intro (slf_none b hx) (hC.none hx))
          clear hC
          go_wp2_with fail
          refine (esc_no _ _ hx).mono ?_
          rintro e w1 ⟨rfl, rfl⟩
          clear hx
          go_wp2_with fail
          go_roundw
          case rel => exact ⟨b + 1, by omega, by go_num, by rw [R.out.1], by rw [R.out.2.1], R.out.2.2, hB⟩
          case measure => simp [intOf]; omega
        · have hcase := esc_cases b x hx
          rcases hcase with ⟨rfl, rfl⟩ | ⟨rfl, rfl⟩ | ⟨rfl, rfl⟩ | ⟨rfl, rfl⟩ | ⟨rfl, rfl⟩ | ⟨rfl, rfl⟩ | ⟨rfl, rfl⟩ | ⟨rfl, rfl⟩
          · have hcell := hC.cell 34 (by omega)
            rw [seen_old 34 34 hx] at hcell
            have hfree := hC.free 34
            have R : Hid _ := And.intro (hC.hit 34 (by omega) hx) (hB.setCell (p := ⟨w.heap.size, 34, none⟩) (Nat.le_refl _) (.bool true))
            rw [show acc 34 = 0 by decide, show slf 34 = 0 by decide]
            clear hC hB
            go_wp2_with fail
            refine (esc_yes _ 34 _ (by unfold Esc; decide)).mono ?_
            rintro e w1 ⟨rfl, rfl⟩
            go_wp2_with fail
            refine (good_yes _ _ _ (by unfold Esc; decide)).mono ?_
            rintro e w1 ⟨rfl, rfl⟩
            clear hx
            go_wp2_with fail
            go_roundw
            case rel => exact ⟨35, by omega, by go_num, by rw [show acc 35 = 1 by decide], by rw [show slf 35 = 1 by decide], R.out.1, R.out.2⟩
            case measure => simp [intOf]
          · have hcell := hC.cell 47 (by omega)
            rw [seen_old 47 47 hx] at hcell
            have hfree := hC.free 47
            have R : Hid _ := And.intro (hC.hit 47 (by omega) hx) (hB.setCell (p := ⟨w.heap.size, 47, none⟩) (Nat.le_refl _) (.bool true))
            rw [show acc 47 = 1 by decide, show slf 47 = 1 by decide]
            clear hC hB
            go_wp2_with fail
            refine (esc_yes _ 47 _ (by unfold Esc; decide)).mono ?_
            rintro e w1 ⟨rfl, rfl⟩
            go_wp2_with fail
            refine (good_yes _ _ _ (by unfold Esc; decide)).mono ?_
            rintro e w1 ⟨rfl, rfl⟩
            clear hx
            go_wp2_with fail
            go_roundw
            case rel => exact ⟨48, by omega, by go_num, by rw [show acc 48 = 2 by decide], by rw [show slf 48 = 2 by decide], R.out.1, R.out.2⟩
            case measure => simp [intOf]
          · have hcell := hC.cell 92 (by omega)
            rw [seen_old 92 92 hx] at hcell
            have hfree := hC.free 92
            have R : Hid _ := And.intro (hC.hit 92 (by omega) hx) (hB.setCell (p := ⟨w.heap.size, 92, none⟩) (Nat.le_refl _) (.bool true))
            rw [show acc 92 = 2 by decide, show slf 92 = 2 by decide]
            clear hC hB
            go_wp2_with fail
            refine (esc_yes _ 92 _ (by unfold Esc; decide)).mono ?_
            rintro e w1 ⟨rfl, rfl⟩
            go_wp2_with fail
            refine (good_yes _ _ _ (by unfold Esc; decide)).mono ?_
            rintro e w1 ⟨rfl, rfl⟩
            clear hx
            go_wp2_with fail
            go_roundw
            case rel => exact ⟨93, by omega, by go_num, by rw [show acc 93 = 3 by decide], by rw [show slf 93 = 3 by decide], R.out.1, R.out.2⟩
            case measure => simp [intOf]
          · have hcell := hC.cell 8 (by omega)
            rw [seen_old 98 8 hx] at hcell
            have hfree := hC.free 8
            have R : Hid _ := And.intro (hC.hit 8 (by omega) hx) (hB.setCell (p := ⟨w.heap.size, 8, none⟩) (Nat.le_refl _) (.bool true))
            rw [show acc 98 = 3 by decide, show slf 98 = 3 by decide]
            clear hC hB
            go_wp2_with fail
            refine (esc_yes _ 8 _ (by unfold Esc; decide)).mono ?_
            rintro e w1 ⟨rfl, rfl⟩
            go_wp2_with fail
            refine (good_yes _ _ _ (by unfold Esc; decide)).mono ?_
            rintro e w1 ⟨rfl, rfl⟩
            clear hx
            go_wp2_with fail
            go_roundw
            case rel => exact ⟨99, by omega, by go_num, by rw [show acc 99 = 4 by decide], by rw [show slf 99 = 3 by decide], R.out.1, R.out.2⟩
            case measure => simp [intOf]
          · have hcell := hC.cell 12 (by omega)
            rw [seen_old 102 12 hx] at hcell
            have hfree := hC.free 12
            have R : Hid _ := And.intro (hC.hit 12 (by omega) hx) (hB.setCell (p := ⟨w.heap.size, 12, none⟩) (Nat.le_refl _) (.bool true))
            rw [show acc 102 = 4 by decide, show slf 102 = 3 by decide]
            clear hC hB
            go_wp2_with fail
            refine (esc_yes _ 12 _ (by unfold Esc; decide)).mono ?_
            rintro e w1 ⟨rfl, rfl⟩
            go_wp2_with fail
            refine (good_yes _ _ _ (by unfold Esc; decide)).mono ?_
            rintro e w1 ⟨rfl, rfl⟩
            clear hx
            go_wp2_with fail
            go_roundw
            case rel => exact ⟨103, by omega, by go_num, by rw [show acc 103 = 5 by decide], by rw [show slf 103 = 3 by decide], R.out.1, R.out.2⟩
            case measure => simp [intOf]
          · have hcell := hC.cell 10 (by omega)
            rw [seen_old 110 10 hx] at hcell
            have hfree := hC.free 10
            have R : Hid _ := And.intro (hC.hit 10 (by omega) hx) (hB.setCell (p := ⟨w.heap.size, 10, none⟩) (Nat.le_refl _) (.bool true))
            rw [show acc 110 = 5 by decide, show slf 110 = 3 by decide]
            clear hC hB
            go_wp2_with fail
            refine (esc_yes _ 10 _ (by unfold Esc; decide)).mono ?_
            rintro e w1 ⟨rfl, rfl⟩
            go_wp2_with fail
            refine (good_yes _ _ _ (by unfold Esc; decide)).mono ?_
            rintro e w1 ⟨rfl, rfl⟩
            clear hx
            go_wp2_with fail
            go_roundw
            case rel => exact ⟨111, by omega, by go_num, by rw [show acc 111 = 6 by decide], by rw [show slf 111 = 3 by decide], R.out.1, R.out.2⟩
            case measure => simp [intOf]
          · have hcell := hC.cell 13 (by omega)
            rw [seen_old 114 13 hx] at hcell
            have hfree := hC.free 13
            have R : Hid _ := And.intro (hC.hit 13 (by omega) hx) (hB.setCell (p := ⟨w.heap.size, 13, none⟩) (Nat.le_refl _) (.bool true))
            rw [show acc 114 = 6 by decide, show slf 114 = 3 by decide]
            clear hC hB
            go_wp2_with fail
            refine (esc_yes _ 13 _ (by unfold Esc; decide)).mono ?_
            rintro e w1 ⟨rfl, rfl⟩
            go_wp2_with fail
            refine (good_yes _ _ _ (by unfold Esc; decide)).mono ?_
            rintro e w1 ⟨rfl, rfl⟩
            clear hx
            go_wp2_with fail
            go_roundw
            case rel => exact ⟨115, by omega, by go_num, by rw [show acc 115 = 7 by decide], by rw [show slf 115 = 3 by decide], R.out.1, R.out.2⟩
            case measure => simp [intOf]
          · have hcell := hC.cell 9 (by omega)
            rw [seen_old 116 9 hx] at hcell
            have hfree := hC.free 9
            have R : Hid _ := And.intro (hC.hit 9 (by omega) hx) (hB.setCell (p := ⟨w.heap.size, 9, none⟩) (Nat.le_refl _) (.bool true))
            rw [show acc 116 = 7 by decide, show slf 116 = 3 by decide]
            clear hC hB
            go_wp2_with fail
            refine (esc_yes _ 9 _ (by unfold Esc; decide)).mono ?_
            rintro e w1 ⟨rfl, rfl⟩
            go_wp2_with fail
            refine (good_yes _ _ _ (by unfold Esc; decide)).mono ?_
            rintro e w1 ⟨rfl, rfl⟩
            clear hx
            go_wp2_with fail
            go_roundw
            case rel => exact ⟨117, by omega, by go_num, by rw [show acc 117 = 8 by decide], by rw [show slf 117 = 3 by decide], R.out.1, R.out.2⟩
            case measure => simp [intOf]
      · obtain rfl : b = 256 := by omega
        have ha : acc 256 = 8 := by decide
        have hs : slf 256 = 3 := by decide
        rw [ha, hs]
        clear ha hs hlt hb hC
        go_wp2
        go_ret
        exact ⟨rfl, hB⟩
end Go.Proofs.Qxb6619346a
