/-
  What is known of a path (a slice of two-cell segments, each with a slice of numbers); HasAS (9).
-/
import Derived.Test.Qxb6619368aRows
import Derived.WalkKit
import Derived.WalkSpells
namespace Go.Proofs.Qxb6619368a
open Go.RowKit

/-- A slice of uint32 that is read. -/
def Seg (w : World) (A : Option Addr) (s : List Int) : Prop :=
  (A = none ∧ s = []) ∨ ∃ y, A = some y ∧ ∀ j, j < s.length → w.cell? (y.add j) = some (.int .u32 (s.getD j 0))

/-- A slice of segments that is read. -/
def View (w : World) (a : Option Addr) (n : Nat) (ss : List (List Int)) : Prop :=
  ss.length = n ∧ ((a = none ∧ n = 0) ∨ ∃ x, a = some x ∧ ∀ i, i < n → ∃ t A C, w.cell? (x.add (i * 2)) = some (.int .u8 t) ∧ w.cell? (x.add (i * 2 + 1)) = some (.slice A (ss.getD i []).length C) ∧ Seg w A (ss.getD i []))

theorem Seg.kept {w w' : World} {A : Option Addr} {s : List Int} (h : Seg w A s) (hb : Below w.heap.size w w') : Seg w' A s := by
  rcases h with h | ⟨y, rfl, hc⟩
  · exact .inl h
  · exact .inr ⟨y, rfl, fun j hj => by rw [hb.cell (World.block_lt_of_cell? w _ (hc j hj))]; exact hc j hj⟩

theorem View.kept {w w' : World} {a : Option Addr} {n : Nat} {ss : List (List Int)} (h : View w a n ss) (hb : Below w.heap.size w w') : View w' a n ss := by
  refine ⟨h.1, ?_⟩
  rcases h.2 with h2 | ⟨x, rfl, hc⟩
  · exact .inl h2
  · refine .inr ⟨x, rfl, fun i hi => ?_⟩
    obtain ⟨t, A, C, h1, h2, h3⟩ := hc i hi
    exact ⟨t, A, C, by rw [hb.cell (World.block_lt_of_cell? w _ h1)]; exact h1, by rw [hb.cell (World.block_lt_of_cell? w _ h2)]; exact h2, h3.kept hb⟩

/-- Element i of a view, with its address written out. -/
theorem View.at {w : World} {a : Option Addr} {n : Nat} {ss : List (List Int)} (h : View w a n ss) (i : Nat) (hi : i < n) :
    ∃ b off t A C s, a = some ⟨b, off, none⟩ ∧ b < w.heap.size ∧ s = ss.getD i [] ∧ w.cell? ⟨b, off + i * 2, none⟩ = some (.int .u8 t) ∧ w.cell? ⟨b, off + i * 2 + 1, none⟩ = some (.slice A s.length C) ∧ Seg w A s := by
  rcases h.2 with ⟨_, h0⟩ | ⟨⟨b, off, sp⟩, rfl, hc⟩
  · omega
  · obtain ⟨t0, A0, C0, g0, _, _⟩ := hc 0 (by omega)
    have hsp : sp = none := by simpa [Addr.add] using World.cell?_spot g0
    subst hsp
    obtain ⟨t, A, C, h1, h2, h3⟩ := hc i hi
    rw [Addr.add_lit] at h1 h2
    exact ⟨b, off, t, A, C, _, rfl, World.block_lt_of_cell? w _ h1, rfl, h1, h2, h3⟩

/-- Number j of a segment, with its address written out. -/
theorem Seg.at {w : World} {A : Option Addr} {s : List Int} (h : Seg w A s) (j : Nat) (hj : j < s.length) :
    ∃ b off, A = some ⟨b, off, none⟩ ∧ b < w.heap.size ∧ w.cell? ⟨b, off + j, none⟩ = some (.int .u32 (s.getD j 0)) := by
  rcases h with ⟨_, rfl⟩ | ⟨⟨b, off, sp⟩, rfl, hc⟩
  · simp at hj
  · have g0 := hc 0 (by omega)
    have hsp : sp = none := by simpa [Addr.add] using World.cell?_spot g0
    subst hsp
    have h1 := hc j hj
    rw [Addr.add_lit] at h1
    exact ⟨b, off, rfl, World.block_lt_of_cell? w _ h1, h1⟩

/-- Does a number stand in a path? -/
def has (asn : Int) (ss : List (List Int)) : Bool := ss.any fun s => s.any fun a => a == asn

theorem has_found (ss : List (List Int)) (s : List Int) (k j : Nat) (asn z : Int) (hs : s = ss.getD k []) (hk : k < ss.length) (hj : j < s.length) (hz : s.getD j 0 = z) (he : (z == asn) = true) : has asn ss = true := by
  unfold has
  rw [List.any_eq_true]
  have hm : s ∈ ss := by rw [hs]; simp [List.getD, hk]
  refine ⟨s, hm, ?_⟩
  rw [List.any_eq_true]
  refine ⟨z, ?_, he⟩
  rw [← hz]
  simp [List.getD, hj]
theorem any_next (s : List Int) (j : Nat) (asn z : Int) (hj : j < s.length) (hz : s.getD j 0 = z) (h : (s.take j).any (fun a => a == asn) = false) (he : (z == asn) = false) : (s.take (j + 1)).any (fun a => a == asn) = false := by
  rw [List.take_succ_eq_append_getElem hj, List.any_append, h]
  have : s[j] = z := by rw [← hz]; simp [List.getD, hj]
  simp only [this, List.any_cons, List.any_nil, he, Bool.or_self]
theorem has_next (ss : List (List Int)) (s : List Int) (k : Nat) (asn : Int) (hk : k < ss.length) (hs : s = ss.getD k []) (h : has asn (ss.take k) = false) (he : s.any (fun a => a == asn) = false) : has asn (ss.take (k + 1)) = false := by
  unfold has at h ⊢
  rw [List.take_succ_eq_append_getElem hk, List.any_append, h]
  have : ss[k] = s := by rw [hs]; simp [List.getD, hk]
  simp only [this, List.any_cons, List.any_nil, he, Bool.or_self]

set_option maxHeartbeats 1000000 in
set_option maxRecDepth 100000 in
theorem has_any (u : Nat) (a : Option Addr) (n c : Nat) (ss : List (List Int)) (asn : Int) (w : World) (hu : w.cell? ⟨u, 1, none⟩ = some (.slice a n c)) (hv : View w a n ss)
    (hn : n ≤ 1048576) (hs : ∀ s ∈ ss, s.length ≤ 1048576) :
    Calls Try.prog 9 #[.pointer (some ⟨u, 0, none⟩), .int .u32 asn] w fun e w' => e = .returned (.bool (has asn ss)) ∧ Below w.heap.size w w' := by
  have hss : ss.length = n := hv.1
  go_enter Try.func9, Try.ntmps9
  go_wp2_with fail
  go_loopw [14] (fun i wr => ∃ k : Nat, k ≤ n ∧ i = .int .i64 k ∧ has asn (ss.take k) = false ∧ Below w.heap.size w wr) (fun i _ => n - (intOf i).toNat)
  case atStart => exact ⟨0, Nat.zero_le _, rfl, rfl, Below.refl _ _⟩
  case round =>
    obtain ⟨k, hk, rfl, hno, hB⟩ := hrel
    by_cases hlt : k < n
    · obtain ⟨b, off, t, A, C, s, rfl, hb, hsk, c0, c1, hsg⟩ := (hv.kept hB).at k hlt
      have hsl : s.length ≤ 1048576 := hs s (by rw [hsk]; simp [List.getD, show k < ss.length by omega])
      have HNO : Hid _ := hno
      have HSK : Hid _ := hsk
      clear hno hsk hv hu hs
      have hB' : Below w.heap.size w (wr.alloc (.cells #[.int .u8 t, .slice A s.length C] 56)) := hB.alloc hB.size _
      have hsg' := hsg.kept ((Below.refl wr.heap.size wr).alloc (Nat.le_refl _) (.cells #[.int .u8 t, .slice A s.length C] 56))
      clear hB hsg
      go_wp2_with fail
      clear c0 c1
      go_loop [21] (fun i => ∃ j : Nat, j ≤ s.length ∧ i = .int .i64 j ∧ (s.take j).any (fun a => a == asn) = false) (fun i => s.length - (intOf i).toNat)
      case atStart => exact ⟨0, Nat.zero_le _, rfl, rfl⟩
      case round =>
        obtain ⟨j, hj, rfl, hnj⟩ := hrel
        have HNJ : Hid _ := hnj
        clear hnj
        by_cases hjl : j < s.length
        · obtain ⟨b', off', rfl, hb', cj⟩ := hsg'.at j hjl
          clear hsg'
          generalize hz : s.getD j 0 = z at *
          have HZ : Hid _ := hz
          clear hz
          by_cases he : (z == asn) = true
          · have R : Hid _ := has_found ss s k j asn z HSK.out (by omega) hjl HZ.out he
            go_wp2_with fail
            go_ret
            exact ⟨by rw [R.out]; rfl, hB'⟩
          · have he' : (z == asn) = false := by simpa using he
            have R : Hid _ := any_next s j asn z hjl HZ.out HNJ.out he'
            clear he
            go_wp2_with fail
            go_round
            case rel => exact ⟨j + 1, by omega, by go_num, R.out⟩
            case measure => simp [intOf]; omega
        · have R : Hid _ := has_next ss s k asn (by omega) HSK.out HNO.out (by have h := HNJ.out; rw [List.take_of_length_le (by omega)] at h; exact h)
          clear hsg'
          go_wp2_with fail
          go_roundw
          case rel => exact ⟨k + 1, by omega, by go_num, R.out, hB'⟩
          case measure => simp [intOf]; omega
    · have R : Hid _ := hno
      clear hno hv hu hs
      go_wp2_with fail
      go_ret
      exact ⟨by have h := R.out; rw [List.take_of_length_le (by omega)] at h; rw [h]; rfl, hB⟩

end Go.Proofs.Qxb6619368a
