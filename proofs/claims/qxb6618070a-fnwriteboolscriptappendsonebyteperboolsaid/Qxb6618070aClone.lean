/-
  The two clones: 5 (bytes), 6 (bools).
-/
import Derived.Test.Qxb6618070aWalks
namespace Go.Proofs.Qxb6618070a
open Go.RowKit

/-- What has been copied so far: the first k of xs, then zeros. -/
def part {α : Type} (f : α → Value) (z : Value) (xs : List α) (n k : Nat) : List Value := (xs.take k).map f ++ List.replicate (n - k) z

theorem part_zero {α : Type} (f : α → Value) (z : Value) (xs : List α) (n : Nat) : part f z xs n 0 = List.replicate n z := by simp [part]
theorem part_all {α : Type} (f : α → Value) (z : Value) (xs : List α) (n : Nat) (h : xs.length = n) : part f z xs n n = xs.map f := by
  simp [part, ← h]

theorem part_set {α : Type} (f : α → Value) (z : Value) (xs : List α) (n k : Nat) (d : α) (h : xs.length = n) (hk : k < n) : (part f z xs n k).set k (f (xs.getD k d)) = part f z xs n (k + 1) := by
  unfold part
  have hr : List.replicate (n - k) z = z :: List.replicate (n - (k + 1)) z := by
    rw [show n - k = (n - (k + 1)) + 1 by omega, List.replicate_succ]
  have hl : ((xs.take k).map f).length = k := by simp; omega
  rw [hr, List.set_append_right _ _ (by omega), hl, Nat.sub_self, List.set_cons_zero, List.take_succ_eq_append_getElem (by omega)]
  simp only [List.getD, List.getElem?_eq_getElem (show k < xs.length by omega), Option.getD_some, List.map_append, List.map_cons, List.map_nil, List.append_assoc, List.singleton_append]

theorem part_at {α : Type} (f : α → Value) (z : Value) (xs : List α) (n k : Nat) (h : xs.length = n) (hk : k < n) : (part f z xs n k)[k]? = some z := by
  unfold part
  have hl : ((xs.take k).map f).length = k := by simp; omega
  rw [List.getElem?_append_right (Nat.le_of_eq hl), hl, Nat.sub_self]
  simp [show 0 < n - k by omega]

theorem clone_nil (w : World) : Calls Try.prog 5 #[.slice none 0 0] w fun e w' => e = .returned (.slice none 0 0) ∧ w' = w := by
  have hnil := fun wx => Lib.run_eql_slice_nil (P := Try.prog) wx 22 5 none 0 0 0 0 Try.underlying22
  go_enter Try.func5, Try.ntmps5
  go_wp2
  go_ret
  exact ⟨rfl, rfl⟩

set_option maxHeartbeats 800000 in
theorem clone_some (x : Addr) (len cap : Nat) (zs : List Int) (w : World) (hz : zs.length = len) (hl : len ≤ 1048576) (hb : len = 0 ∨ x.block < w.heap.size)
    (hc : ∀ i, i < len → w.cell? (x.add i) = some (.int .u8 (zs.getD i 0))) :
    Calls Try.prog 5 #[.slice (some x) len cap] w fun e w' => e = .returned (.slice (some ⟨w.heap.size, 0, none⟩) len len) ∧
      w'.ownsRow w.heap.size 5 1 (.slice (some ⟨w.heap.size, 0, none⟩) len len) len (zs.map (Value.int .u8)) ∧ Below w.heap.size w w' := by
  obtain ⟨i0, hi, hz0, hz1, hz2⟩ := info_parts Try.info5
  obtain ⟨b, off, sp⟩ := x
  have hnil := fun wx => Lib.run_eql_slice_nil (P := Try.prog) wx 22 5 (some ⟨b, off, sp⟩) len cap 0 0 Try.underlying22
  go_enter Try.func5, Try.ntmps5
  go_wp2_with (at_make; refine wpList_make_full _ rfl _ _ 22 rfl w.heap.size 5 i0 (.int .u8 0) 1 Try.underlying22 hi hz0 hz1 .i64 .i64 _ _ len rfl rfl (by omega) (by omega) (by rw [hz2]; omega) (by unfold maxLen; omega) (by simp) ?_)
  intro w1 hown hgrow
  have hown0 : w1.ownsRow w.heap.size 5 1 (.slice (some ⟨w.heap.size, 0, none⟩) len len) len (part (Value.int .u8) (.int .u8 0) zs len 0) := by
    rw [part_zero, ← toList_madeCells_one]; simpa [Value.cells] using hown
  have hbel0 : Below w.heap.size w w1 := (Below.refl _ _).grown hgrow (Nat.le_refl _) (fun k h => by cases h)
  clear hown hgrow
  go_wp2
  go_loopw [4] (fun i wr => ∃ k : Nat, k ≤ len ∧ i = .int .i64 k ∧ wr.ownsRow w.heap.size 5 1 (.slice (some ⟨w.heap.size, 0, none⟩) len len) len (part (Value.int .u8) (.int .u8 0) zs len k) ∧ Below w.heap.size w wr) (fun i _ => len - (intOf i).toNat)
  case atStart => exact ⟨0, Nat.zero_le _, rfl, hown0, hbel0⟩
  case round =>
    obtain ⟨k, hk, rfl, hown, hbel⟩ := hrel
    clear hown0 hbel0
    by_cases hlt : k < len
    · have hc0 := hc k hlt
      have hsp : sp = none := by simpa [Addr.add] using World.cell?_spot (hc 0 (by omega))
      subst hsp
      rw [Addr.add_lit] at hc0
      have hb' : b < w.heap.size := by rcases hb with h | h; (· omega); (· exact h)
      have hsrc : wr.cell? ⟨b, off + k, none⟩ = some (.int .u8 (zs.getD k 0)) := (hbel.cell (p := ⟨b, off + k, none⟩) hb').trans hc0
      have hdst : wr.cell? ⟨w.heap.size, k, none⟩ = some (.int .u8 0) := by rw [hown.cellAt k (by omega)]; exact part_at _ _ _ _ _ hz hlt
      have hfr := hown.frozenAt k
      have hst := hown.stored k (.int .u8 (zs.getD k 0))
      rw [part_set _ _ _ _ _ _ hz hlt] at hst
      have hst2 := hbel.setCell (p := ⟨w.heap.size, k, none⟩) (Nat.le_refl _) (.int .u8 (zs.getD k 0))
      have H := And.intro hst.1 hst2
      clear hst hst2 hown hbel hc hc0
      generalize zs.getD k 0 = z at *
      go_wp2
      go_roundw
      case rel => exact ⟨k + 1, by omega, by go_num, H.1, H.2⟩
      case measure => simp [intOf]; omega
    · go_wp2
      go_ret
      have : k = len := by omega
      subst this
      rw [part_all _ _ _ _ hz] at hown
      exact ⟨rfl, hown, hbel⟩

theorem cloneB_nil (w : World) : Calls Try.prog 6 #[.slice none 0 0] w fun e w' => e = .returned (.slice none 0 0) ∧ w' = w := by
  have hnil := fun wx => Lib.run_eql_slice_nil (P := Try.prog) wx 23 4 none 0 0 0 0 Try.underlying23
  go_enter Try.func6, Try.ntmps6
  go_wp2
  go_ret
  exact ⟨rfl, rfl⟩

set_option maxHeartbeats 800000 in
theorem cloneB_some (x : Addr) (len cap : Nat) (zs : List Bool) (w : World) (hz : zs.length = len) (hl : len ≤ 1048576) (hb : len = 0 ∨ x.block < w.heap.size)
    (hc : ∀ i, i < len → w.cell? (x.add i) = some (.bool (zs.getD i false))) :
    Calls Try.prog 6 #[.slice (some x) len cap] w fun e w' => e = .returned (.slice (some ⟨w.heap.size, 0, none⟩) len len) ∧
      w'.ownsRow w.heap.size 4 1 (.slice (some ⟨w.heap.size, 0, none⟩) len len) len (zs.map (Value.bool)) ∧ Below w.heap.size w w' := by
  obtain ⟨i0, hi, hz0, hz1, hz2⟩ := info_parts Try.info4
  obtain ⟨b, off, sp⟩ := x
  have hnil := fun wx => Lib.run_eql_slice_nil (P := Try.prog) wx 23 4 (some ⟨b, off, sp⟩) len cap 0 0 Try.underlying23
  go_enter Try.func6, Try.ntmps6
  go_wp2_with (at_make; refine wpList_make_full _ rfl _ _ 23 rfl w.heap.size 4 i0 (.bool false) 1 Try.underlying23 hi hz0 hz1 .i64 .i64 _ _ len rfl rfl (by omega) (by omega) (by rw [hz2]; omega) (by unfold maxLen; omega) (by simp) ?_)
  intro w1 hown hgrow
  have hown0 : w1.ownsRow w.heap.size 4 1 (.slice (some ⟨w.heap.size, 0, none⟩) len len) len (part (Value.bool) (.bool false) zs len 0) := by
    rw [part_zero, ← toList_madeCells_one]; simpa [Value.cells] using hown
  have hbel0 : Below w.heap.size w w1 := (Below.refl _ _).grown hgrow (Nat.le_refl _) (fun k h => by cases h)
  clear hown hgrow
  go_wp2
  go_loopw [4] (fun i wr => ∃ k : Nat, k ≤ len ∧ i = .int .i64 k ∧ wr.ownsRow w.heap.size 4 1 (.slice (some ⟨w.heap.size, 0, none⟩) len len) len (part (Value.bool) (.bool false) zs len k) ∧ Below w.heap.size w wr) (fun i _ => len - (intOf i).toNat)
  case atStart => exact ⟨0, Nat.zero_le _, rfl, hown0, hbel0⟩
  case round =>
    obtain ⟨k, hk, rfl, hown, hbel⟩ := hrel
    clear hown0 hbel0
    by_cases hlt : k < len
    · have hc0 := hc k hlt
      have hsp : sp = none := by simpa [Addr.add] using World.cell?_spot (hc 0 (by omega))
      subst hsp
      rw [Addr.add_lit] at hc0
      have hb' : b < w.heap.size := by rcases hb with h | h; (· omega); (· exact h)
      have hsrc : wr.cell? ⟨b, off + k, none⟩ = some (.bool (zs.getD k false)) := (hbel.cell (p := ⟨b, off + k, none⟩) hb').trans hc0
      have hdst : wr.cell? ⟨w.heap.size, k, none⟩ = some (.bool false) := by rw [hown.cellAt k (by omega)]; exact part_at _ _ _ _ _ hz hlt
      have hfr := hown.frozenAt k
      have hst := hown.stored k (.bool (zs.getD k false))
      rw [part_set _ _ _ _ _ _ hz hlt] at hst
      have hst2 := hbel.setCell (p := ⟨w.heap.size, k, none⟩) (Nat.le_refl _) (.bool (zs.getD k false))
      have H := And.intro hst.1 hst2
      clear hst hst2 hown hbel hc hc0
      generalize zs.getD k false = z at *
      go_wp2
      go_roundw
      case rel => exact ⟨k + 1, by omega, by go_num, H.1, H.2⟩
      case measure => simp [intOf]; omega
    · go_wp2
      go_ret
      have : k = len := by omega
      subst this
      rw [part_all _ _ _ _ hz] at hown
      exact ⟨rfl, hown, hbel⟩


/-! ### The clones, one contract each: of whatever slice whose cells are known -/

/-- What is known of a slice that is read: it is nil, or its first cells are known and lie in memory. -/
def Src {α : Type} (w : World) (f : α → Value) (d : α) (a : Option Addr) (len cap : Nat) (zs : List α) : Prop :=
  zs.length = len ∧ ((a = none ∧ len = 0 ∧ cap = 0) ∨ ∃ x, a = some x ∧ (len = 0 ∨ x.block < w.heap.size) ∧ ∀ i, i < len → w.cell? (x.add i) = some (f (zs.getD i d)))

theorem clone_any (a : Option Addr) (len cap : Nat) (zs : List Int) (w : World) (hs : Src w (Value.int .u8) 0 a len cap zs) (hl : len ≤ 1048576) :
    Calls Try.prog 5 #[.slice a len cap] w fun e w' => ∃ a' cap', e = .returned (.slice a' len cap') ∧ w'.ownsRow w.heap.size 5 1 (.slice a' len cap') len (zs.map (Value.int .u8)) ∧ Below w.heap.size w w' := by
  obtain ⟨hz, ⟨rfl, rfl, rfl⟩ | ⟨x, rfl, hb, hc⟩⟩ := hs
  · refine (clone_nil w).mono ?_
    rintro e w' ⟨rfl, rfl⟩
    obtain rfl : zs = [] := List.eq_nil_of_length_eq_zero hz
    exact ⟨_, _, rfl, World.ownsRow_nil _ _ _ _, Below.refl _ _⟩
  · refine (clone_some x len cap zs w hz hl hb hc).mono ?_
    rintro e w' ⟨rfl, h1, h2⟩
    exact ⟨_, _, rfl, h1, h2⟩

theorem cloneB_any (a : Option Addr) (len cap : Nat) (zs : List Bool) (w : World) (hs : Src w Value.bool false a len cap zs) (hl : len ≤ 1048576) :
    Calls Try.prog 6 #[.slice a len cap] w fun e w' => ∃ a' cap', e = .returned (.slice a' len cap') ∧ w'.ownsRow w.heap.size 4 1 (.slice a' len cap') len (zs.map Value.bool) ∧ Below w.heap.size w w' := by
  obtain ⟨hz, ⟨rfl, rfl, rfl⟩ | ⟨x, rfl, hb, hc⟩⟩ := hs
  · refine (cloneB_nil w).mono ?_
    rintro e w' ⟨rfl, rfl⟩
    obtain rfl : zs = [] := List.eq_nil_of_length_eq_zero hz
    exact ⟨_, _, rfl, World.ownsRow_nil _ _ _ _, Below.refl _ _⟩
  · refine (cloneB_some x len cap zs w hz hl hb hc).mono ?_
    rintro e w' ⟨rfl, h1, h2⟩
    exact ⟨_, _, rfl, h1, h2⟩

/-- An owned row of n elements, n > 0: where it lies and what its cells hold. -/
theorem own_at {w : World} {base : Nat} {e : TypeId} {a : Option Addr} {n c : Nat} {xs : List Value} (h : w.ownsRow base e 1 (.slice a n c) n xs) (hn : 0 < n) :
    ∃ g, a = some ⟨g, 0, none⟩ ∧ base ≤ g ∧ g < w.heap.size ∧ ∀ j, j < n → w.cell? ⟨g, j, none⟩ = xs[j]? := by
  rcases h.2 with ⟨_, h0⟩ | ⟨g, cap, cur, hv, hb, hg, rest⟩
  · omega
  · simp only [Value.slice.injEq] at hv
    obtain ⟨rfl, _, rfl⟩ := hv
    exact ⟨g, rfl, hb, lt_of_block hg, fun j hj => h.cellAt j (by omega)⟩

theorem own_src {w : World} {base : Nat} {a : Option Addr} {n c : Nat} {α : Type} {f : α → Value} {zs : List α} {e : TypeId} (d : α) (h : w.ownsRow base e 1 (.slice a n c) n (zs.map f)) : Src w f d a n c zs := by
  have hz : zs.length = n := by simpa using h.1
  refine ⟨hz, ?_⟩
  rcases h.2 with ⟨hv, h0⟩ | ⟨g, cap, cur, hv, hb, hg, rest⟩
  · simp only [Value.slice.injEq] at hv
    exact .inl ⟨hv.1, hv.2.1, hv.2.2⟩
  · simp only [Value.slice.injEq] at hv
    obtain ⟨rfl, _, rfl⟩ := hv
    refine .inr ⟨_, rfl, .inr (lt_of_block hg), fun i hi => ?_⟩
    rw [Addr.add_lit, Nat.zero_add, h.cellAt i (by omega)]
    simp [List.getD, show i < zs.length by omega]

/-- What is owned stays owned while nothing below the heap's end turns. -/
theorem own_kept {w w' : World} {base B : Nat} {e : TypeId} {v : Value} {n : Nat} {xs : List Value} (h : w.ownsRow base e 1 v n xs) (hB : w.heap.size ≤ B) (hb : Below B w w') : w'.ownsRow base e 1 v n xs := by
  refine ⟨h.1, ?_⟩
  rcases h.2 with h2 | ⟨g, cap, cur, hv, hg, hh, r⟩
  · exact Or.inl h2
  · exact Or.inr ⟨g, cap, cur, hv, hg, by rw [hb.block g (Nat.lt_of_lt_of_le (lt_of_block hh) hB)]; exact hh, r⟩

/-! ### The encoder: a block of one cell, which holds a slice that the call owns -/
def Enc (w : World) (base be n : Nat) (xs : List Value) : Prop :=
  base ≤ be ∧ ∃ a c, w.heap[be]? = some (.cells #[.slice a n c] 32 (0, 0)) ∧ w.ownsRow base 5 1 (.slice a n c) n xs

def bit (b : Bool) : Int := if b then 1 else 0

theorem step_write {w w1 : World} {base be n : Nat} {a : Option Addr} {c : Nat} {xs : List Value} {v' : Value} (z : Int) (hbe : base ≤ be) (hblk : w.heap[be]? = some (.cells #[.slice a n c] 32 (0, 0)))
    (hown : w.ownsRow base 5 1 (.slice a n c) n xs) (hown' : w1.ownsRow base 5 1 v' (n + 1) (xs ++ [.int .u8 z])) (hgrow : (w.alloc (.cells #[.int .u8 z] 5)).grownBy w1 (Value.slice a n c).ownBlock) :
    ∃ g cap', v' = .slice (some ⟨g, 0, none⟩) (n + 1) cap' ∧ w1.cell? ⟨be, 0, none⟩ = some (.slice a n c) ∧ w1.frozen? ⟨be, 0, none⟩ = false ∧
      Enc (w1.setCell ⟨be, 0, none⟩ (.slice (some ⟨g, 0, none⟩) (n + 1) cap')) base be (n + 1) (xs ++ [.int .u8 z]) ∧ Below base w (w1.setCell ⟨be, 0, none⟩ (.slice (some ⟨g, 0, none⟩) (n + 1) cap')) := by
  have hlt := lt_of_block hblk
  have hne : (Value.slice a n c).ownBlock ≠ some be := by
    rcases hown.2 with ⟨hv, _⟩ | ⟨g, cap, cur, hv, _, hg, _⟩
    · rw [hv]; simp [Value.ownBlock]
    · rw [hv]; simp only [Value.ownBlock, ne_eq, Option.some.injEq]
      rintro rfl
      rw [hblk] at hg; simp at hg
  have hblk1 : w1.heap[be]? = some (.cells #[.slice a n c] 32 (0, 0)) := by
    rw [hgrow.block be (by simp; omega) (fun e => hne e.symm), Below.heap_alloc _ _ _ hlt]; exact hblk
  obtain ⟨g, cap', rfl, hgb⟩ : ∃ g cap', v' = .slice (some ⟨g, 0, none⟩) (n + 1) cap' ∧ be ≠ g := by
    rcases hown'.2 with ⟨_, h⟩ | ⟨g, cap', _, h, _, hg, _⟩
    · omega
    · refine ⟨g, cap', h, ?_⟩
      rintro rfl
      rw [hblk1] at hg; simp at hg
  have hB : Below base w w1 := ((Below.refl base w).alloc (by omega) _).grown hgrow (by simp; omega) (fun k h => (hown.lt k h).1)
  exact ⟨g, cap', rfl, cell_of_one hblk1, free_of_one hblk1, ⟨hbe, _, _, one_setCell hblk1, ownsRow_setCell_other hown' (by simp [Value.ownBlock]; omega) _⟩, hB.setCell hbe _⟩

set_option maxHeartbeats 800000 in
theorem write_any (base be n : Nat) (xs : List Value) (b : Bool) (w : World) (hE : Enc w base be n xs) (hn : n ≤ 1048576) :
    Calls Try.prog 8 #[.pointer (some ⟨be, 0, none⟩), .bool b] w fun e w' => e = .returned (.tuple #[]) ∧ Enc w' base be (n + 1) (xs ++ [.int .u8 (bit b)]) ∧ Below base w w' := by
  obtain ⟨hbe, a, c, hblk, hown⟩ := hE
  have hlt := lt_of_block hblk
  obtain ⟨i0, hi, hz0, hz1, hz2⟩ := info_parts Try.info5
  have hcell := cell_of_one hblk
  cases b
  · go_enter Try.func8, Try.ntmps8
    go_wp2_with (at_builtin; refine wpList_append_own _ rfl (.tmp 10) (.tmp 12) 22 rfl base 5 i0 (.int .u8 0) 1 1 Try.underlying22 hi hz0 hz1 hz2 rfl (by decide) _ _ _ rfl (hown.alloc _) ⟨w.heap.size, 0, none⟩ 1 1 [.int .u8 0] rfl rfl ?c10 ?c20 ?c30 ?c40 ?c50 ?_)
    case c10 => intro j u hj; match j, hj with | 0, hj => simp at hj; subst hj; simp [Addr.add]
    case c20 => intro u hu; simp at hu; subst hu; rfl
    case c30 => unfold maxLen; omega
    case c40 => omega
    case c50 => simp; omega
    · intro v' w1 hown' hgrow _
      have S := step_write 0 hbe hblk hown hown' hgrow
      clear hown hown' hgrow hcell hblk
      obtain ⟨g, cap', rfl, hc1, hf1, S1, S2⟩ := S
      go_wp2
      go_end0
      exact ⟨rfl, S1, S2⟩
  · go_enter Try.func8, Try.ntmps8
    go_wp2_with (at_builtin; refine wpList_append_own _ rfl (.tmp 10) (.tmp 12) 22 rfl base 5 i0 (.int .u8 0) 1 1 Try.underlying22 hi hz0 hz1 hz2 rfl (by decide) _ _ _ rfl (hown.alloc _) ⟨w.heap.size, 0, none⟩ 1 1 [.int .u8 1] rfl rfl ?c11 ?c21 ?c31 ?c41 ?c51 ?_)
    case c11 => intro j u hj; match j, hj with | 0, hj => simp at hj; subst hj; simp [Addr.add]
    case c21 => intro u hu; simp at hu; subst hu; rfl
    case c31 => unfold maxLen; omega
    case c41 => omega
    case c51 => simp; omega
    · intro v' w1 hown' hgrow _
      have S := step_write 1 hbe hblk hown hown' hgrow
      clear hown hown' hgrow hcell hblk
      obtain ⟨g, cap', rfl, hc1, hf1, S1, S2⟩ := S
      go_wp2
      go_end0
      exact ⟨rfl, S1, S2⟩

end Go.Proofs.Qxb6618070a
