/-
  The law FnHasASCutAndFilter (3), out of the callees' contracts.
-/
import Derived.Test.Qxb6619368aWithout
namespace Go.Proofs.Qxb6619368a
open Go.RowKit

theorem has_cut (asn : Int) (ss : List (List Int)) (k : Nat) : has asn ss = (has asn (ss.take k) || has asn (ss.drop k)) := by
  unfold has
  rw [← List.any_append, List.take_append_drop]
theorem kp_none (asn : Int) (s : List Int) : (kp asn s).any (fun a => a == asn) = false := by
  unfold kp
  rw [List.any_eq_false]
  intro x hx
  have := (List.mem_filter.1 hx).2
  simpa using this
theorem has_struck (asn : Int) (ss : List (List Int)) : has asn (ss.map (kp asn)) = false := by
  unfold has
  rw [List.any_eq_false]
  intro s hs
  obtain ⟨s', _, rfl⟩ := List.mem_map.1 hs
  rw [kp_none]; simp
theorem rm_pos (asn : Int) (s : List Int) : s.any (fun a => a == asn) = decide (0 < rm asn s) := by
  unfold rm
  induction s with
  | nil => simp
  | cons a s ih =>
    rw [List.any_cons, List.filter_cons]
    cases h : (a == asn)
    · simp only [Bool.false_or, Bool.false_eq_true, if_false]; exact ih
    · simp
theorem has_removed (asn : Int) (ss : List (List Int)) : has asn ss = decide (0 < rms asn ss) := by
  unfold has rms
  induction ss with
  | nil => simp
  | cons s ss ih =>
    rw [List.any_cons, List.map_cons, List.sum_cons, ih, rm_pos, Bool.eq_iff_iff]
    simp only [Bool.or_eq_true, decide_eq_true_eq]
    omega

theorem len_le (ss : List (List Int)) (s : List Int) (h : s ∈ ss) : s.length ≤ tl ss ss.length := by
  unfold tl
  rw [List.take_of_length_le (Nat.le_refl _)]
  induction ss with
  | nil => cases h
  | cons a ss ih =>
    rw [List.map_cons, List.sum_cons]
    rcases List.mem_cons.1 h with rfl | h
    · omega
    · have := ih h; omega

theorem RView.kept {w w' : World} {r : Option Addr} (h : RView w r) (hb : Below w.heap.size w w') : RView w' r := by
  rcases h with h | ⟨b, o, x, y, a1, l1, c1, a2, l2, c2, p, hr, h0, h1, h2, h3, h4⟩
  · exact .inl h
  · have hlt : b < w.heap.size := World.block_lt_of_cell? w _ h0
    exact .inr ⟨b, o, x, y, a1, l1, c1, a2, l2, c2, p, hr, (hb.cell (p := ⟨b, o, none⟩) hlt).trans h0, (hb.cell (p := ⟨b, o + 1, none⟩) hlt).trans h1, (hb.cell (p := ⟨b, o + 2, none⟩) hlt).trans h2, (hb.cell (p := ⟨b, o + 3, none⟩) hlt).trans h3, (hb.cell (p := ⟨b, o + 4, none⟩) hlt).trans h4⟩
theorem UView.kept {w w' : World} {r : Option Addr} (h : UView w r) (hb : Below w.heap.size w w') : UView w' r := by
  rcases h with h | ⟨b, o, x, y, a1, l1, c1, p, hr, h0, h1, h2, h3⟩
  · exact .inl h
  · have hlt : b < w.heap.size := World.block_lt_of_cell? w _ h0
    exact .inr ⟨b, o, x, y, a1, l1, c1, p, hr, (hb.cell (p := ⟨b, o, none⟩) hlt).trans h0, (hb.cell (p := ⟨b, o + 1, none⟩) hlt).trans h1, (hb.cell (p := ⟨b, o + 2, none⟩) hlt).trans h2, (hb.cell (p := ⟨b, o + 3, none⟩) hlt).trans h3⟩

/-- An update that lies in memory: its path, and what the path reads as. -/
def Upd (w : World) (u n : Nat) (ss : List (List Int)) : Prop := ∃ a m c, w.cell? ⟨u, 1, none⟩ = some (.slice a m c) ∧ m ≤ n ∧ View w a m ss
theorem Upd.kept {w w' : World} {u n : Nat} {ss : List (List Int)} (h : Upd w u n ss) (hb : Below w.heap.size w w') : Upd w' u n ss := by
  obtain ⟨a, m, c, h1, h2, h3⟩ := h
  exact ⟨a, m, c, (hb.cell (World.block_lt_of_cell? w _ h1)).trans h1, h2, h3.kept hb⟩

theorem has_upd (u n : Nat) (ss : List (List Int)) (asn : Int) (w : World) (h : Upd w u n ss) (hn : n ≤ 1048576) (hs : ∀ s ∈ ss, s.length ≤ 1048576) :
    Calls Try.prog 9 #[.pointer (some ⟨u, 0, none⟩), .int .u32 asn] w fun e w' => e = .returned (.bool (has asn ss)) ∧ Below w.heap.size w w' := by
  obtain ⟨a, m, c, h1, h2, h3⟩ := h
  exact has_any u a m c ss asn w h1 h3 (by omega) hs

theorem path_whole (a : Option Addr) (n c : Nat) (ss : List (List Int)) (w : World) (hv : View w a n ss) (hn : n ≤ 1048576) (hnil : a = none → c = 0) :
    Calls Try.prog 7 #[.slice a n c, .int .i64 0, .int .i64 n] w (PPost w n ss) := by
  have h := path_any a n c ss 0 n w hv (Nat.zero_le _) (Nat.le_refl _) hn hnil
  rw [show (ss.drop 0).take (n - 0) = ss by rw [List.drop_zero]; exact List.take_of_length_le (by rw [hv.1]; exact Nat.le_refl _)] at h
  exact h
theorem path_left (a : Option Addr) (n c : Nat) (ss : List (List Int)) (k : Nat) (w : World) (hv : View w a n ss) (hk : k ≤ n) (hn : n ≤ 1048576) (hnil : a = none → c = 0) :
    Calls Try.prog 7 #[.slice a n c, .int .i64 0, .int .i64 k] w (PPost w n (ss.take k)) := by
  have h := path_any a n c ss 0 k w hv (Nat.zero_le _) hk hn hnil
  rw [show (ss.drop 0).take (k - 0) = ss.take k by rw [List.drop_zero]; rfl] at h
  exact h
theorem path_right (a : Option Addr) (n c : Nat) (ss : List (List Int)) (k : Nat) (w : World) (hv : View w a n ss) (hk : k ≤ n) (hn : n ≤ 1048576) (hnil : a = none → c = 0) :
    Calls Try.prog 7 #[.slice a n c, .int .i64 k, .int .i64 n] w (PPost w n (ss.drop k)) := by
  have h := path_any a n c ss k n w hv hk (Nat.le_refl _) hn hnil
  rw [show (ss.drop k).take (n - k) = ss.drop k from List.take_of_length_le (by rw [List.length_drop, hv.1]; exact Nat.le_refl _)] at h
  exact h

theorem below_step {w w1 w2 : World} (h : Below w.heap.size w w1) (k : Below w1.heap.size w1 w2) : Below w.heap.size w w2 := h.trans (k.mono h.size)
theorem below_drawn (w : World) (n : Nat) : Below w.heap.size w (w.drewN n) := ⟨rfl, rfl, rfl, Nat.le_refl _, fun _ _ => rfl⟩

set_option maxHeartbeats 4000000 in
set_option maxRecDepth 100000 in
theorem law_any (a : Option Addr) (n c : Nat) (ss : List (List Int)) (cut asn org : Int) (lp r un ae ap : Option Addr) (le ce lpm cpm : Nat) (w : World) (hv : View w a n ss) (hr : RView w r) (hu : UView w un) (hnil : a = none → c = 0) :
    Calls Try.prog 3 #[.slice a n c, .int .i64 cut, .int .u32 asn, .int .u8 org, .pointer lp, .pointer r, .pointer un, .slice ae le ce, .slice ap lpm cpm] w
      fun e w' => e = .returned (.bool true) ∧ Below w.heap.size w w' := by
  have hss : ss.length = n := hv.1
  go_enter Try.func3, Try.ntmps3
  go_wp2_with fail
  refine (bytes_any a n c ss cut asn org lp r un ae ap le ce lpm cpm w hv hr hu).mono ?_
  rintro e w0 ⟨b0, rfl, hw, hN0⟩
  subst hw
  cases b0
  · go_wp2
    go_ret
    exact ⟨rfl, Below.refl _ _⟩
  have hN := hN0 rfl
  clear hN0
  go_wp2_with fail
  refine (size_any a n c ss r un ae ap le ce lpm cpm w hv hr hu).mono ?_
  rintro e w1 ⟨b1, nq, rfl, hw⟩
  subst hw
  have hB1 := below_drawn w nq
  generalize w.drewN nq = w1 at *
  cases b1
  · go_wp2
    go_ret
    exact ⟨rfl, hB1⟩
  by_cases hcut : cut < 0 ∨ (n : Int) < cut
  · clear hv hr hu
    go_wp2
    all_goals
      go_ret
      exact ⟨rfl, hB1⟩
  obtain ⟨k, rfl⟩ := Int.eq_ofNat_of_zero_le (show 0 ≤ cut by omega)
  have hk : k ≤ n := by omega
  clear hcut
  have hv1 := hv.kept hB1
  have hr1 := hr.kept hB1
  have hu1 := hu.kept hB1
  clear hv hr hu
  have hnb : n ≤ 1048576 := by omega
  have HL : Hid (∀ s ∈ ss, s.length ≤ 1048576) := fun s hs => by have := len_le ss s hs; rw [hss] at this; omega
  go_wp2_with fail
  refine (path_whole a n c ss w1 hv1 hnb hnil).mono ?_
  rintro e w2 ⟨a2, m2, c2, rfl, hm2, hp2, hs2⟩
  go_wp2_with fail
  refine (upd_any org a2 m2 c2 lp r un ae ap le ce lpm cpm w2 (hr1.kept hs2) (hu1.kept hs2)).mono ?_
  rintro e w3 ⟨u1, rfl, hc3, hs3⟩
  have hU1 : Upd w3 u1 n ss := ⟨a2, m2, c2, hc3, hm2, hp2.kept hs3⟩
  have hB3 := below_step (below_step hB1 hs2) hs3
  have hB13 := below_step hs2 hs3
  have hv3 := hv1.kept hB13
  have hr3 := hr1.kept hB13
  have hu3 := hu1.kept hB13
  clear hc3 hp2 hs2 hs3 hv1 hr1 hu1 hB1 hB13
  go_wp2_with fail
  refine (path_left a n c ss k w3 hv3 hk hnb hnil).mono ?_
  rintro e w4 ⟨a4, m4, c4, rfl, hm4, hp4, hs4⟩
  go_wp2_with fail
  refine (upd_any org a4 m4 c4 lp r un ae ap le ce lpm cpm w4 (hr3.kept hs4) (hu3.kept hs4)).mono ?_
  rintro e w5 ⟨u2, rfl, hc5, hs5⟩
  have hU2 : Upd w5 u2 n (ss.take k) := ⟨a4, m4, c4, hc5, hm4, hp4.kept hs5⟩
  have hB35 := below_step hs4 hs5
  have hB5 := below_step hB3 hB35
  have hU15 := hU1.kept hB35
  have hv5 := hv3.kept hB35
  have hr5 := hr3.kept hB35
  have hu5 := hu3.kept hB35
  clear hc5 hp4 hs4 hs5 hv3 hr3 hu3 hB3 hB35 hU1
  go_wp2_with fail
  refine (path_right a n c ss k w5 hv5 hk hnb hnil).mono ?_
  rintro e w6 ⟨a6, m6, c6, rfl, hm6, hp6, hs6⟩
  go_wp2_with fail
  refine (upd_any org a6 m6 c6 lp r un ae ap le ce lpm cpm w6 (hr5.kept hs6) (hu5.kept hs6)).mono ?_
  rintro e w7 ⟨u3, rfl, hc7, hs7⟩
  have hU3 : Upd w7 u3 n (ss.drop k) := ⟨a6, m6, c6, hc7, hm6, hp6.kept hs7⟩
  have hB57 := below_step hs6 hs7
  have hB7 := below_step hB5 hB57
  have hU17 := hU15.kept hB57
  have hU27 := hU2.kept hB57
  have hv7 := hv5.kept hB57
  have hr7 := hr5.kept hB57
  have hu7 := hu5.kept hB57
  clear hc7 hp6 hs6 hs7 hv5 hr5 hu5 hB5 hB57 hU15 hU2
  go_wp2_with fail
  refine (without_any a n c ss asn w7 hv7 hN).mono ?_
  rintro e w8 ⟨a8, c8, rfl, hp8, hs8⟩
  go_wp2_with fail
  refine (upd_any org a8 n c8 lp r un ae ap le ce lpm cpm w8 (hr7.kept hs8) (hu7.kept hs8)).mono ?_
  rintro e w9 ⟨u4, rfl, hc9, hs9⟩
  have hU4 : Upd w9 u4 n (ss.map (kp asn)) := ⟨a8, n, c8, hc9, Nat.le_refl _, hp8.kept hs9⟩
  have hB79 := below_step hs8 hs9
  have hB9 := below_step hB7 hB79
  have hU19 := hU17.kept hB79
  have hU29 := hU27.kept hB79
  have hU39 := hU3.kept hB79
  clear hc9 hp8 hs8 hs9 hv7 hr7 hu7 hB7 hB79 hU17 hU27 hU3
  go_wp2_with fail
  refine (has_upd u1 n ss asn w9 hU19 hnb HL.out).mono ?_
  rintro e wA ⟨rfl, hsA⟩
  go_wp2_with fail
  refine (has_upd u2 n _ asn wA (hU29.kept hsA) hnb (fun s hs => HL.out s (List.mem_of_mem_take hs))).mono ?_
  rintro e wB ⟨rfl, hsB⟩
  have hAB := below_step hsA hsB
  go_wp2_with fail
  refine (has_upd u3 n _ asn wB (hU39.kept hAB) hnb (fun s hs => HL.out s (List.mem_of_mem_drop hs))).mono ?_
  rintro e wC ⟨rfl, hsC⟩
  have hAC := below_step hAB hsC
  go_wp2_with fail
  refine (has_upd u4 n _ asn wC (hU4.kept hAC) hnb (fun s hs => by obtain ⟨s', hs', rfl⟩ := List.mem_map.1 hs; exact Nat.le_trans (List.length_filter_le _ _) (HL.out s' hs'))).mono ?_
  rintro e wD ⟨rfl, hsD⟩
  have hBD := below_step hB9 (below_step hAC hsD)
  clear hU19 hU29 hU39 hU4 hsA hsB hsC hsD hAB hAC hB9
  have e1 := has_cut asn ss k
  have e2 := has_removed asn ss
  rw [has_struck, e1]
  rw [e1] at e2
  generalize rms asn ss = R at *
  clear e1
  generalize has asn (ss.take k) = b1 at *
  generalize has asn (ss.drop k) = b2 at *
  cases b1 <;> cases b2
  all_goals
    simp at e2
    go_wp2
    go_ret
    exact ⟨rfl, hBD⟩

end Go.Proofs.Qxb6619368a
