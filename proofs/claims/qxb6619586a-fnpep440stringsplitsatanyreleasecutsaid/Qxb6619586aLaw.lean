/-
  ZZPep440String (6); the law FnPep440StringSplitsAtAnyReleaseCut (3).
-/
import Derived.Test.Qxb6619586aString
import Derived.Laws.CopyOwn
namespace Go.Proofs.Qxb6619586a
open Go.RowKit

theorem Try.info9 : (Try.prog.info? 9).map (fun i => (i.zero, i.size, i.bytes)) = some (some (.string ⟨#[]⟩), 1, 16) := by kernel_rfl

/-- What String gives. -/
def pep (ep : ByteArray) (xs : List ByteArray) (pk pr po dv : ByteArray) (a' : Option Addr) (ys : List ByteArray) : ByteArray :=
  ⟨(pEpoch ep ++ dots xs ++ pPre pk pr ++ pPost po ++ pDev dv ++ pLocal a' ys).toArray⟩

theorem string_pep (ep pk pr po dv : ByteArray) (a a' : Option Addr) (n c n' c' : Nat) (xs ys : List ByteArray) (w : World) (hv : SV w a n xs) (hv' : SV w a' n' ys) (hc : n ≤ c) (hc' : n' ≤ c') (hn : n ≤ 4096) (hn' : n' ≤ 4096)
    (hx : (dots xs).length ≤ 1048576) (hy : (dots ys).length ≤ 1048576) (h1 : ep.size ≤ 65536) (h2 : pk.size ≤ 65536) (h3 : pr.size ≤ 65536) (h4 : po.size ≤ 65536) (h5 : dv.size ≤ 65536) :
    Calls Try.prog 7 #[.agg #[.string ep, .slice a n c, .string pk, .string pr, .string po, .string dv, .slice a' n' c']] w
      fun e w' => e = .returned (.string (pep ep xs pk pr po dv a' ys)) ∧ Below w.heap.size w w' :=
  string_any ep pk pr po dv a a' n c n' c' xs ys w hv hv' hc hc' hn hn' hx hy h1 h2 h3 h4 h5

set_option maxHeartbeats 1000000 in
set_option maxRecDepth 100000 in
theorem zz_any (ep pk pr po dv : ByteArray) (a a' : Option Addr) (n c n' c' : Nat) (xs ys : List ByteArray) (w : World) (hv : SV w a n xs) (hv' : SV w a' n' ys) (hc : n ≤ c) (hc' : n' ≤ c') (hn : n ≤ 4096) (hn' : n' ≤ 4096)
    (hx : (dots xs).length ≤ 1048576) (hy : (dots ys).length ≤ 1048576) (h1 : ep.size ≤ 65536) (h2 : pk.size ≤ 65536) (h3 : pr.size ≤ 65536) (h4 : po.size ≤ 65536) (h5 : dv.size ≤ 65536) :
    Calls Try.prog 6 #[.string ep, .slice a n c, .string pk, .string pr, .string po, .string dv, .slice a' n' c'] w
      fun e w' => e = .returned (.string (pep ep xs pk pr po dv a' ys)) ∧ Below w.heap.size w w' := by
  have hb : Below w.heap.size w (w.alloc (.cells #[.string ep, .slice a n c, .string pk, .string pr, .string po, .string dv, .slice a' n' c'] 27)) := (Below.refl _ _).alloc (Nat.le_refl _) _
  have k1 := hv.kept hb
  have k2 := hv'.kept hb
  clear hv hv'
  go_enter Try.func6, Try.ntmps6
  go_wp2_with fail
  refine (string_pep ep pk pr po dv a a' n c n' c' xs ys _ k1 k2 hc hc' hn hn' hx hy h1 h2 h3 h4 h5).mono ?_
  rintro e w1 ⟨rfl, hB⟩
  have hB1 := hb.trans (hB.mono hb.size)
  clear hB hb k1 k2
  go_wp2
  go_ret
  exact ⟨rfl, hB1⟩

/-! ### The plain law -/
def tot (xs : List ByteArray) : Nat := (xs.map fun x => 16 + x.size).sum
theorem tl_all (xs : List ByteArray) : tl xs xs.length = tot xs := by unfold tl tot; rw [List.take_of_length_le (Nat.le_refl _)]
theorem tot_append (xs ys : List ByteArray) : tot (xs ++ ys) = tot xs + tot ys := by simp [tot]
theorem tot_cut (xs : List ByteArray) (k : Nat) : tot xs = tot (xs.take k) + tot (xs.drop k) := by rw [← tot_append, List.take_append_drop]

theorem joinTail_le (xs : List ByteArray) : (Lib.joinTail [46] (xs.map (·.data.toList))).length ≤ tot xs := by
  induction xs with
  | nil => simp [Lib.joinTail]
  | cons x xs ih =>
    simp only [Lib.joinTail, List.map_cons, List.flatten_cons, List.length_append, List.length_singleton, data_len, tot, List.sum_cons] at ih ⊢
    omega
theorem dots_le (xs : List ByteArray) : (dots xs).length ≤ tot xs := by
  unfold dots
  cases xs with
  | nil => simp [Lib.join_nil]
  | cons x xs =>
    rw [List.map_cons, Lib.join_cons, List.length_append, data_len]
    have := joinTail_le xs
    simp only [tot, List.map_cons, List.sum_cons] at this ⊢
    omega

theorem dots_append (x y : ByteArray) (r q : List ByteArray) : dots (x :: r ++ y :: q) = dots (x :: r) ++ [46] ++ dots (y :: q) := by
  unfold dots
  simp only [List.cons_append, List.map_cons, List.map_append, Lib.join_cons, Lib.joinTail, List.flatten_append, List.flatten_cons, List.append_assoc]
theorem dots_cut (xs : List ByteArray) (k : Nat) (h1 : 1 ≤ k) (h2 : k < xs.length) : dots xs = dots (xs.take k) ++ [46] ++ dots (xs.drop k) := by
  have e : xs = xs.take k ++ xs.drop k := (List.take_append_drop k xs).symm
  have l1 : (xs.take k).length = k := by simp; omega
  have l2 : (xs.drop k).length = xs.length - k := by simp
  cases ht : xs.take k with
  | nil => rw [ht] at l1; simp at l1; omega
  | cons x r =>
    cases hd : xs.drop k with
    | nil => rw [hd] at l2; simp at l2; omega
    | cons y q =>
      rw [ht, hd] at e
      rw [← dots_append, ← e]
theorem dots_one (xs : List ByteArray) (h : 1 ≤ xs.length) : dots (xs.take 1) = (xs.getD 0 ByteArray.empty).data.toList := by
  cases xs with
  | nil => simp at h
  | cons x r => unfold dots; simp [Lib.join_one, List.getD]

theorem pEpoch_zero : pEpoch ⟨#[48]⟩ = [] := by unfold pEpoch; rw [Go.ByteArray.toList_eq]; rfl
theorem pPre_none (pr : ByteArray) : pPre ⟨#[]⟩ pr = [] := by unfold pPre; rw [Go.ByteArray.toList_eq]; rfl
theorem pPost_none : pPost ⟨#[]⟩ = [] := by unfold pPost; rw [Go.ByteArray.toList_eq]; rfl
theorem pDev_none : pDev ⟨#[]⟩ = [] := by unfold pDev; rw [Go.ByteArray.toList_eq]; rfl
theorem bytes_ext {a b : ByteArray} (h : a.data.toList = b.data.toList) : a = b := by
  cases a; cases b
  simp only [ByteArray.mk.injEq]
  exact Array.toList_inj.1 h
theorem pLocal_none : pLocal none [] = [] := rfl

theorem pep_cut (ep pk pr po dv : ByteArray) (a' : Option Addr) (xs ys : List ByteArray) (k : Nat) (h1 : 1 ≤ k) (h2 : k < xs.length) :
    pep ep xs pk pr po dv a' ys = pep ep (xs.take k) ⟨#[]⟩ ⟨#[]⟩ ⟨#[]⟩ ⟨#[]⟩ none [] ++ ⟨#[46]⟩ ++ pep ⟨#[48]⟩ (xs.drop k) pk pr po dv a' ys := by
  apply bytes_ext
  unfold pep
  rw [pEpoch_zero, pPre_none, pPost_none, pDev_none, pLocal_none, dots_cut xs k h1 h2]
  simp only [ByteArray.data_append, Array.toList_append, List.append_nil, List.nil_append, List.append_assoc]
theorem pep_first (xs : List ByteArray) (h : 1 ≤ xs.length) : pep ⟨#[48]⟩ (xs.take 1) ⟨#[]⟩ ⟨#[]⟩ ⟨#[]⟩ ⟨#[]⟩ none [] = xs.getD 0 ByteArray.empty := by
  apply bytes_ext
  unfold pep
  rw [pEpoch_zero, pPre_none, pPost_none, pDev_none, pLocal_none, dots_one xs h]
  simp only [List.append_nil, List.nil_append]

theorem pep_size (ep pk pr po dv : ByteArray) (a' : Option Addr) (xs ys : List ByteArray) (hx : (dots xs).length ≤ 1048576) (hy : (dots ys).length ≤ 1048576) (h1 : ep.size ≤ 65536) (h2 : pk.size ≤ 65536) (h3 : pr.size ≤ 65536) (h4 : po.size ≤ 65536) (h5 : dv.size ≤ 65536) :
    (pep ep xs pk pr po dv a' ys).size ≤ 4000000 := by
  unfold pep
  rw [size_of_list]
  have e1 := pEpoch_le ep h1
  have e2 := pPre_le pk pr h2 h3
  have e3 := pPost_le po h4
  have e4 := pDev_le dv h5
  have e5 := opt_le a'.isSome ([43] ++ dots ys)
  simp only [List.length_append, List.length_singleton] at e5 ⊢
  unfold pLocal
  omega

/-! ### Slices that the call itself made -/
/-- A made row of n strings, whole. -/
theorem made_row {w : World} {base g n : Nat} {zs : List Value} (h : w.ownsRow base 9 1 (.slice (some ⟨g, 0, none⟩) n n) n zs) : w.heap[g]? = some (.cells zs.toArray 9 (0, 0)) := by
  rcases h.2 with ⟨h', _⟩ | ⟨g', cap', cur, h', _, hg, _, _, hcs, htake⟩
  · simp at h'
  · simp only [Value.slice.injEq, Option.some.injEq, Addr.mk.injEq, and_true, true_and] at h'
    obtain ⟨rfl, rfl⟩ := h'
    rw [List.take_of_length_le (by rw [Array.length_toList, hcs]; exact Nat.le_refl _)] at htake
    rw [hg, ← htake]
theorem copied {zs : List Value} {xs : List ByteArray} (h : zs.length = xs.length) : splice zs 0 (xs.map Value.string) = xs.map Value.string := by
  unfold splice
  rw [List.take_zero, List.nil_append, List.drop_eq_nil_of_le (by simp; omega), List.append_nil]
theorem row_sv {w : World} {g n : Nat} {xs : List ByteArray} (h : w.heap[g]? = some (.cells (xs.map Value.string).toArray 9 (0, 0))) (hn : xs.length = n) : SV w (some ⟨g, 0, none⟩) n xs := by
  refine ⟨hn, .inr ⟨_, rfl, fun i hi => ?_⟩⟩
  rw [Addr.add_lit, Nat.zero_add, cell_of_row w g i _ 9 (0, 0) h]
  simp [List.getD, show i < xs.length by omega]
theorem SV.left {w : World} {g off n : Nat} {xs : List ByteArray} (h : SV w (some ⟨g, off, none⟩) n xs) (k : Nat) (hk : k ≤ n) : SV w (some ⟨g, off, none⟩) k (xs.take k) := by
  refine ⟨by rw [List.length_take, h.1]; omega, .inr ⟨_, rfl, fun i hi => ?_⟩⟩
  obtain ⟨b, o, he, _, hc⟩ := h.at i (by omega)
  simp only [Option.some.injEq, Addr.mk.injEq, and_true] at he
  obtain ⟨rfl, rfl⟩ := he
  rw [Addr.add_lit, hc]
  simp [List.getD, hi]
theorem SV.right {w : World} {g off n : Nat} {xs : List ByteArray} (h : SV w (some ⟨g, off, none⟩) n xs) (k : Nat) (hk : k ≤ n) : SV w (some ⟨g, off + k, none⟩) (n - k) (xs.drop k) := by
  refine ⟨by rw [List.length_drop, h.1], .inr ⟨_, rfl, fun i hi => ?_⟩⟩
  obtain ⟨b, o, he, _, hc⟩ := h.at (k + i) (by omega)
  simp only [Option.some.injEq, Addr.mk.injEq, and_true] at he
  obtain ⟨rfl, rfl⟩ := he
  rw [Addr.add_lit, Nat.add_assoc, hc]
  simp [List.getD]

theorem sv_cells {w : World} {b off n : Nat} {xs : List ByteArray} (h : SV w (some ⟨b, off, none⟩) n xs) : ∀ j v, (xs.map Value.string)[j]? = some v → w.cell? ((⟨b, off, none⟩ : Addr).add j) = some v := by
  intro j v hj
  have hjl : j < xs.length := by have := (List.getElem?_eq_some_iff.1 hj).1; simpa using this
  obtain ⟨b', o', he, _, hc⟩ := h.at j (by rw [← h.1]; exact hjl)
  simp only [Option.some.injEq, Addr.mk.injEq, and_true] at he
  obtain ⟨rfl, rfl⟩ := he
  rw [Addr.add_lit, hc, ← hj]
  simp [List.getD, hjl]

set_option maxHeartbeats 4000000 in
set_option maxRecDepth 100000 in
theorem law_main (ep pk pr po dv : ByteArray) (a a' : Option Addr) (n c n' c' : Nat) (xs ys : List ByteArray) (k : Nat) (w : World) (hv : SV w a n xs) (hv' : SV w a' n' ys) (hnil' : a' = none → c' = 0)
    (h1 : ep.size ≤ 65536) (h2 : pk.size ≤ 65536) (h3 : pr.size ≤ 65536) (h4 : po.size ≤ 65536) (h5 : dv.size ≤ 65536) (hk1 : 1 ≤ k) (hk2 : k < n) :
    Calls Try.prog 3 #[.string ep, .slice a n c, .string pk, .string pr, .string po, .string dv, .slice a' n' c', .int .i64 k] w
      fun e w' => e = .returned (.bool true) ∧ Below w.heap.size w w' := by
  have hxl : xs.length = n := hv.1
  have hyl : ys.length = n' := hv'.1
  obtain ⟨i0, hi, hz0, hz1, hz2⟩ := info_parts Try.info9
  have hne := fun wx => run_neq_slice_nil_any (P := Try.prog) wx 22 9 a n c 0 0 Try.underlying22
  have hne' := fun wx => run_neq_slice_nil_any (P := Try.prog) wx 22 9 a' n' c' 0 0 Try.underlying22
  go_enter Try.func3, Try.ntmps3
  go_wp2_with fail
  refine (bytes_any ep pk pr po dv a a' n c n' c' xs ys k w hv hv').mono ?_
  rintro e w0 ⟨b0, rfl, hw, hS⟩
  subst hw
  cases b0
  · go_wp2
    go_ret
    exact ⟨rfl, Below.refl _ _⟩
  obtain ⟨hSx, hSy⟩ := hS rfl
  clear hS
  go_wp2_with fail
  refine (big_any a n c xs w hv hSx).mono ?_
  rintro e w0 ⟨b1, rfl, hw, hT⟩
  subst hw
  cases b1
  case true =>
    clear hT
    go_wp2
    go_ret
    exact ⟨rfl, Below.refl _ _⟩
  obtain ⟨hn, htx⟩ := hT rfl
  clear hT
  go_wp2_with fail
  refine (big_any a' n' c' ys w hv' hSy).mono ?_
  rintro e w0 ⟨b2, rfl, hw, hT⟩
  subst hw
  cases b2
  case true =>
    clear hT
    go_wp2
    go_ret
    exact ⟨rfl, Below.refl _ _⟩
  obtain ⟨hn', hty⟩ := hT rfl
  clear hT hSx hSy
  obtain ⟨bk, off, rfl, hbk, _⟩ := hv.at 0 (by omega)
  go_wp2_with (at_make; refine wpList_make_full _ rfl _ _ 22 rfl w.heap.size 9 i0 (.string ⟨#[]⟩) 1 Try.underlying22 hi hz0 hz1 .i64 .i64 _ _ n rfl rfl (by omega) (by omega) (by rw [hz2]; omega) (by unfold maxLen; omega) (by simp) ?_)
  intro w1 hown hgrow
  have hB1 : Below w.heap.size w w1 := (Below.refl _ _).grown hgrow (Nat.le_refl _) (fun k h => by cases h)
  have hrow := made_row hown
  have hzl : (madeCells #[Value.string ⟨#[]⟩] n).toList.length = n := by simp [madeCells]
  generalize (madeCells #[Value.string ⟨#[]⟩] n).toList = ZS at *
  have hsv1 := hv.kept hB1
  have hsv1' := hv'.kept hB1
  have hcl : (xs.map Value.string).length = Nat.min n n := by rw [List.length_map, hxl]; simp
  have hfit : 0 + (xs.map Value.string).length ≤ ZS.length := by rw [List.length_map]; omega
  have hpos : 0 < (xs.map Value.string).length → (some (⟨w.heap.size, 0, none⟩ : Addr) = some ⟨w.heap.size, 0, none⟩) ∧ ∃ ad, some (⟨bk, off, none⟩ : Addr) = some ad ∧ ∀ j v, (xs.map Value.string)[j]? = some v → w1.cell? (ad.add j) = some v :=
    fun _ => ⟨rfl, _, rfl, sv_cells hsv1⟩
  have h1c : ∀ v ∈ xs.map Value.string, v.oneCell' = true := by intro v hv; obtain ⟨x, _, rfl⟩ := List.mem_map.1 hv; rfl
  have HC : Hid _ := copied (zs := ZS) (xs := xs) (by omega)
  generalize hcs : xs.map Value.string = CS at *
  have HCS : Hid _ := hcs
  clear hcs hown hgrow hne
  go_wp2_with (refine wpList_copy_splice rfl (.tmp 75) (.tmp 76) 22 22 rfl 9 Try.underlying22 (by kernel_rfl) (some ⟨w.heap.size, 0, none⟩) (some ⟨bk, off, none⟩) n n n c rfl rfl w.heap.size 0 ZS 9 hrow CS hcl hpos hfit h1c w.heap.size w hB1 (Nat.le_refl _) ?_)
  intro w2 HG2 hB2
  have hvx : SV w2 (some ⟨w.heap.size, 0, none⟩) n xs := row_sv (by have h := HG2.out; rw [HC.out, ← HCS.out] at h; exact h) hxl
  have hvy := hv'.kept hB2
  clear HG2 hrow hpos hfit h1c hcl hsv1 hsv1' hB1 hv hv' HC HCS hzl
  go_upto_if 80 with fail
  go_cut [6] from 23 (fun v wx => ∃ a2 c2, v = .slice a2 n' c2 ∧ n' ≤ c2 ∧ SV wx a2 n' ys ∧ SV wx (some ⟨w.heap.size, 0, none⟩) n xs ∧ Below w.heap.size w wx)
  case first =>
    cases ha : a' with
    | none =>
      subst ha
      obtain rfl := hnil' rfl
      have hn0 : n' = 0 := by
        rcases hvy.2 with ⟨_, h0⟩ | ⟨x, hx, _⟩
        · exact h0
        · cases hx
      have R : Hid _ := And.intro hvy (And.intro hvx hB2)
      clear hvy hvx hB2 hnil'
      go_wp2_with fail
      go_meet
      case rel => exact ⟨none, 0, rfl, by omega, R.out.1, R.out.2.1, R.out.2.2⟩
    | some x' =>
      subst ha
      clear hnil' hne'
      go_wp2_with (at_make; refine wpList_make_full _ rfl _ _ 22 rfl w2.heap.size 9 i0 (.string ⟨#[]⟩) 1 Try.underlying22 hi hz0 hz1 .i64 .i64 _ _ n' rfl rfl (by omega) (by omega) (by rw [hz2]; omega) (by unfold maxLen; omega) (by simp) ?_)
      intro w3 hown3 hgrow3
      have hB3 : Below w2.heap.size w2 w3 := (Below.refl _ _).grown hgrow3 (Nat.le_refl _) (fun k h => by cases h)
      have hrow3 := made_row hown3
      have hzl : (madeCells #[Value.string ⟨#[]⟩] n').toList.length = n' := by simp [madeCells]
      generalize (madeCells #[Value.string ⟨#[]⟩] n').toList = ZS at *
      have hsv3 := hvy.kept hB3
      have hcl : (ys.map Value.string).length = Nat.min n' n' := by rw [List.length_map, hyl]; simp
      have hfit : 0 + (ys.map Value.string).length ≤ ZS.length := by rw [List.length_map]; omega
      have hpos : 0 < (ys.map Value.string).length → (some (⟨w2.heap.size, 0, none⟩ : Addr) = some ⟨w2.heap.size, 0, none⟩) ∧ ∃ ad, some x' = some ad ∧ ∀ j v, (ys.map Value.string)[j]? = some v → w3.cell? (ad.add j) = some v :=
        fun h0 => by
          obtain ⟨b', o', he, _, _⟩ := hsv3.at 0 (by simpa [hyl] using h0)
          obtain rfl := Option.some.inj he
          exact ⟨rfl, _, rfl, sv_cells hsv3⟩
      have h1c : ∀ v ∈ ys.map Value.string, v.oneCell' = true := by intro v hv; obtain ⟨x, _, rfl⟩ := List.mem_map.1 hv; rfl
      have HC : Hid _ := copied (zs := ZS) (xs := ys) (by omega)
      generalize hcs : ys.map Value.string = CS at *
      have HCS : Hid _ := hcs
      clear hcs hown3 hgrow3
      go_wp2_with (refine wpList_copy_splice rfl (.tmp 84) (.tmp 85) 22 22 rfl 9 Try.underlying22 (by kernel_rfl) (some ⟨w2.heap.size, 0, none⟩) (some x') n' n' n' c' rfl rfl w2.heap.size 0 ZS 9 hrow3 CS hcl hpos hfit h1c w2.heap.size w2 hB3 (Nat.le_refl _) ?_)
      intro w4 HG4 hB4
      have hvy4 : SV w4 (some ⟨w2.heap.size, 0, none⟩) n' ys := row_sv (by have h := HG4.out; rw [HC.out, ← HCS.out] at h; exact h) hyl
      have R : Hid _ := And.intro hvy4 (And.intro (hvx.kept hB4) (hB2.trans (hB4.mono hB2.size)))
      clear HG4 hrow3 hpos hfit h1c hcl hsv3 hB3 HC HCS hzl hvy4 hvx hB2 hvy hB4
      go_wp2_with fail
      go_meet
      case rel => exact ⟨_, _, rfl, Nat.le_refl _, R.out.1, R.out.2.1, R.out.2.2⟩
  case rest =>
    obtain ⟨a2, c2, rfl, hc2, hy4, hx4, hB4⟩ := hcut
    clear hvx hvy hB2 hne' hnil'
    have tx : tot xs ≤ 262144 := by rw [← tl_all, hxl]; exact htx
    have ty : tot ys ≤ 262144 := by rw [← tl_all, hyl]; exact hty
    have dx : (dots xs).length ≤ 1048576 := Nat.le_trans (dots_le xs) (by omega)
    have dy : (dots ys).length ≤ 1048576 := Nat.le_trans (dots_le ys) (by omega)
    have dl : (dots (xs.take k)).length ≤ 1048576 := by have h6 := dots_le (xs.take k); have h7 := tot_cut xs k; omega
    have dr : (dots (xs.drop k)).length ≤ 1048576 := by have h6 := dots_le (xs.drop k); have h7 := tot_cut xs k; omega
    have d1 : (dots (xs.take 1)).length ≤ 1048576 := by have h6 := dots_le (xs.take 1); have h7 := tot_cut xs 1; omega
    have d0 : (dots ([] : List ByteArray)).length ≤ 1048576 := Nat.le_trans (dots_le []) (Nat.zero_le _)
    have HE : Hid _ := pep_cut ep pk pr po dv a2 xs ys k hk1 (by omega)
    have HF : Hid _ := pep_first xs (by omega)
    clear tx ty htx hty
    go_wp2_with fail
    refine (zz_any ep pk pr po dv _ a2 n n n' c2 xs ys wc hx4 hy4 (Nat.le_refl _) hc2 hn hn' dx dy h1 h2 h3 h4 h5).mono ?_
    rintro e w5 ⟨rfl, hs5⟩
    have hx5 := hx4.kept hs5
    have hy5 := hy4.kept hs5
    have hB5 := hB4.trans (hs5.mono hB4.size)
    clear hx4 hy4 hs5 hB4
    rw [HE.out]
    go_wp2_with fail
    refine (zz_any ep ⟨#[]⟩ ⟨#[]⟩ ⟨#[]⟩ ⟨#[]⟩ _ none k n 0 0 (xs.take k) [] w5 (hx5.left k (by omega)) ⟨rfl, .inl ⟨rfl, rfl⟩⟩ (by omega) (Nat.le_refl _) (by omega) (by omega) dl d0 h1 (Nat.zero_le _) (Nat.zero_le _) (Nat.zero_le _) (Nat.zero_le _)).mono ?_
    rintro e w6 ⟨rfl, hs6⟩
    have hx6 := hx5.kept hs6
    have hy6 := hy5.kept hs6
    have hB6 := hB5.trans (hs6.mono hB5.size)
    clear hx5 hy5 hs6 hB5
    have hlb := pep_size ep ⟨#[]⟩ ⟨#[]⟩ ⟨#[]⟩ ⟨#[]⟩ none (xs.take k) [] dl d0 h1 (Nat.zero_le _) (Nat.zero_le _) (Nat.zero_le _) (Nat.zero_le _)
    generalize pep ep (xs.take k) ⟨#[]⟩ ⟨#[]⟩ ⟨#[]⟩ ⟨#[]⟩ none [] = Lb at *
    have hxr : SV w6 (some ⟨w.heap.size, k, none⟩) (n - k) (xs.drop k) := by have h := hx6.right k (by omega); rw [Nat.zero_add] at h; exact h
    go_wp2_with fail
    refine (zz_any ⟨#[48]⟩ pk pr po dv _ a2 (n - k) (n - k) n' c2 (xs.drop k) ys w6 hxr hy6 (Nat.le_refl _) hc2 (by omega) hn' dr dy (by show 1 ≤ _; omega) h2 h3 h4 h5).mono ?_
    rintro e w7 ⟨rfl, hs7⟩
    have hx7 := hx6.kept hs7
    have hB7 := hB6.trans (hs7.mono hB6.size)
    clear hx6 hy6 hs7 hB6 hxr
    have hrb := pep_size ⟨#[48]⟩ pk pr po dv a2 (xs.drop k) ys dr dy (by show 1 ≤ _; omega) h2 h3 h4 h5
    generalize pep ⟨#[48]⟩ (xs.drop k) pk pr po dv a2 ys = Rb at *
    go_wp2_with fail
    refine (zz_any ⟨#[48]⟩ ⟨#[]⟩ ⟨#[]⟩ ⟨#[]⟩ ⟨#[]⟩ _ none 1 n 0 0 (xs.take 1) [] w7 (hx7.left 1 (by omega)) ⟨rfl, .inl ⟨rfl, rfl⟩⟩ (by omega) (Nat.le_refl _) (by omega) (by omega) d1 d0 (by show 1 ≤ _; omega) (Nat.zero_le _) (Nat.zero_le _) (Nat.zero_le _) (Nat.zero_le _)).mono ?_
    rintro e w8 ⟨rfl, hs8⟩
    have hx8 := hx7.kept hs8
    have hB8 := hB7.trans (hs8.mono hB7.size)
    clear hx7 hs8 hB7
    obtain ⟨b9, o9, he9, _, c9⟩ := hx8.at 0 (by omega)
    simp only [Option.some.injEq, Addr.mk.injEq, and_true] at he9
    obtain ⟨rfl, rfl⟩ := he9
    rw [HF.out]
    generalize xs.getD 0 ByteArray.empty = F at *
    clear hx8
    have hlb2 : (Lb ++ ⟨#[46]⟩).size ≤ 4000001 := by rw [ByteArray.size_append]; show Lb.size + 1 ≤ _; omega
    go_wp2_with fail
    go_ret
    exact ⟨rfl, hB8⟩

set_option maxHeartbeats 4000000 in
set_option maxRecDepth 100000 in
theorem law_long (ep pk pr po dv : ByteArray) (a a' : Option Addr) (n c n' c' : Nat) (xs ys : List ByteArray) (k : Int) (w : World) (hv : SV w a n xs) (hv' : SV w a' n' ys)
    (h : ¬ (ep.size ≤ 65536 ∧ pk.size ≤ 65536 ∧ pr.size ≤ 65536 ∧ po.size ≤ 65536 ∧ dv.size ≤ 65536)) :
    Calls Try.prog 3 #[.string ep, .slice a n c, .string pk, .string pr, .string po, .string dv, .slice a' n' c', .int .i64 k] w
      fun e w' => e = .returned (.bool true) ∧ Below w.heap.size w w' := by
  have h' : ep.size ≤ 65536 → pk.size ≤ 65536 → pr.size ≤ 65536 → po.size ≤ 65536 → 65536 < dv.size := by omega
  clear h
  go_enter Try.func3, Try.ntmps3
  go_wp2_with fail
  refine (bytes_any ep pk pr po dv a a' n c n' c' xs ys k w hv hv').mono ?_
  rintro e w0 ⟨b0, rfl, hw, hS⟩
  subst hw
  clear hv hv' hS
  cases b0
  · go_wp2
    go_ret
    exact ⟨rfl, Below.refl _ _⟩
  · go_wp2_with fail
    all_goals (go_ret; exact ⟨rfl, Below.refl _ _⟩)

set_option maxHeartbeats 4000000 in
set_option maxRecDepth 100000 in
theorem law_out (ep pk pr po dv : ByteArray) (a a' : Option Addr) (n c n' c' : Nat) (xs ys : List ByteArray) (k : Int) (w : World) (hv : SV w a n xs) (hv' : SV w a' n' ys)
    (h1 : ep.size ≤ 65536) (h2 : pk.size ≤ 65536) (h3 : pr.size ≤ 65536) (h4 : po.size ≤ 65536) (h5 : dv.size ≤ 65536) (hk : 1 ≤ k → (n : Int) ≤ k) :
    Calls Try.prog 3 #[.string ep, .slice a n c, .string pk, .string pr, .string po, .string dv, .slice a' n' c', .int .i64 k] w
      fun e w' => e = .returned (.bool true) ∧ Below w.heap.size w w' := by
  go_enter Try.func3, Try.ntmps3
  go_wp2_with fail
  refine (bytes_any ep pk pr po dv a a' n c n' c' xs ys k w hv hv').mono ?_
  rintro e w0 ⟨b0, rfl, hw, hS⟩
  subst hw
  cases b0
  · go_wp2
    go_ret
    exact ⟨rfl, Below.refl _ _⟩
  obtain ⟨hSx, hSy⟩ := hS rfl
  clear hS
  go_wp2_with fail
  refine (big_any a n c xs w hv hSx).mono ?_
  rintro e w0 ⟨b1, rfl, hw, hT⟩
  subst hw
  clear hT
  cases b1
  case true =>
    go_wp2
    go_ret
    exact ⟨rfl, Below.refl _ _⟩
  go_wp2_with fail
  refine (big_any a' n' c' ys w hv' hSy).mono ?_
  rintro e w0 ⟨b2, rfl, hw, hT⟩
  subst hw
  clear hT
  cases b2
  · go_wp2
    all_goals (go_ret; exact ⟨rfl, Below.refl _ _⟩)
  · go_wp2
    go_ret
    exact ⟨rfl, Below.refl _ _⟩

theorem law_any (ep pk pr po dv : ByteArray) (a a' : Option Addr) (n c n' c' : Nat) (xs ys : List ByteArray) (k : Int) (w : World) (hv : SV w a n xs) (hv' : SV w a' n' ys) (hnil' : a' = none → c' = 0) :
    Calls Try.prog 3 #[.string ep, .slice a n c, .string pk, .string pr, .string po, .string dv, .slice a' n' c', .int .i64 k] w
      fun e w' => e = .returned (.bool true) ∧ Below w.heap.size w w' := by
  by_cases h : ep.size ≤ 65536 ∧ pk.size ≤ 65536 ∧ pr.size ≤ 65536 ∧ po.size ≤ 65536 ∧ dv.size ≤ 65536
  · by_cases hk : 1 ≤ k ∧ k < n
    · obtain ⟨j, rfl⟩ := Int.eq_ofNat_of_zero_le (show 0 ≤ k by omega)
      exact law_main ep pk pr po dv a a' n c n' c' xs ys j w hv hv' hnil' h.1 h.2.1 h.2.2.1 h.2.2.2.1 h.2.2.2.2 (by omega) (by omega)
    · exact law_out ep pk pr po dv a a' n c n' c' xs ys k w hv hv' h.1 h.2.1 h.2.2.1 h.2.2.2.1 h.2.2.2.2 (by omega)
  · exact law_long ep pk pr po dv a a' n c n' c' xs ys k w hv hv' h

end Go.Proofs.Qxb6619586a
