/-
  bgpb1Update (6).
-/
import Derived.Test.Qxb6619368aHas
import Derived.BigRegion
namespace Go.Proofs.Qxb6619368a
open Go.RowKit

/-- What is known of the pointer 'reach'. -/
def RView (w : World) (r : Option Addr) : Prop := r = none ∨ ∃ b o x y a1 l1 c1 a2 l2 c2 p, r = some ⟨b, o, none⟩ ∧ w.cell? ⟨b, o, none⟩ = some (.int .u16 x) ∧ w.cell? ⟨b, o + 1, none⟩ = some (.int .u8 y) ∧
  w.cell? ⟨b, o + 2, none⟩ = some (.slice a1 l1 c1) ∧ w.cell? ⟨b, o + 3, none⟩ = some (.slice a2 l2 c2) ∧ w.cell? ⟨b, o + 4, none⟩ = some (.bool p)
/-- What is known of the pointer 'unreach'. -/
def UView (w : World) (r : Option Addr) : Prop := r = none ∨ ∃ b o x y a1 l1 c1 p, r = some ⟨b, o, none⟩ ∧ w.cell? ⟨b, o, none⟩ = some (.int .u16 x) ∧ w.cell? ⟨b, o + 1, none⟩ = some (.int .u8 y) ∧
  w.cell? ⟨b, o + 2, none⟩ = some (.slice a1 l1 c1) ∧ w.cell? ⟨b, o + 3, none⟩ = some (.bool p)

set_option maxHeartbeats 1000000 in
set_option maxRecDepth 100000 in
theorem upd_nn (o : Int) (a : Option Addr) (n c : Nat) (lp : Option Addr) (ae ap : Option Addr) (le ce lpm cpm : Nat) (w : World) :
    Calls Try.prog 6 #[.int .u8 o, .slice a n c, .pointer lp, .pointer none, .pointer none, .slice ae le ce, .slice ap lpm cpm] w fun e w' => ∃ u, e = .returned (.pointer (some ⟨u, 0, none⟩)) ∧ w'.cell? ⟨u, 1, none⟩ = some (.slice a n c) ∧ Below w.heap.size w w' := by
  go_enter Try.func6, Try.ntmps6
  go_wp2
  go_ret
  exact ⟨w.heap.size, rfl, by simp, (Below.refl _ _).alloc (Nat.le_refl _) _⟩

set_option maxHeartbeats 4000000 in
set_option maxRecDepth 100000 in
theorem upd_un (o : Int) (a : Option Addr) (n c : Nat) (lp : Option Addr) (ae ap : Option Addr) (le ce lpm cpm : Nat) (w : World)
    (b off : Nat) (x y : Int) (a1 : Option Addr) (l1 c1 : Nat) (p : Bool)  (h0 : w.cell? ⟨b, off, none⟩ = some (.int .u16 x)) (h1 : w.cell? ⟨b, off + 1, none⟩ = some (.int .u8 y)) (h2 : w.cell? ⟨b, off + 2, none⟩ = some (.slice a1 l1 c1)) (h3 : w.cell? ⟨b, off + 3, none⟩ = some (.bool p)) (hb : b < w.heap.size):
    Calls Try.prog 6 #[.int .u8 o, .slice a n c, .pointer lp, .pointer none, .pointer (some ⟨b, off, none⟩), .slice ae le ce, .slice ap lpm cpm] w fun e w' => ∃ u, e = .returned (.pointer (some ⟨u, 0, none⟩)) ∧ w'.cell? ⟨u, 1, none⟩ = some (.slice a n c) ∧ Below w.heap.size w w' := by
  go_enter Try.func6, Try.ntmps6
  go_wp2_with fail
  go_region
  go_wp2
  go_ret
  exact ⟨w.heap.size, rfl, by simp, (((Below.refl _ _).alloc (Nat.le_refl _) _).alloc (by simp) _).drew⟩

set_option maxHeartbeats 4000000 in
set_option maxRecDepth 100000 in
theorem upd_rn (o : Int) (a : Option Addr) (n c : Nat) (lp : Option Addr) (ae ap : Option Addr) (le ce lpm cpm : Nat) (w : World)
    (b off : Nat) (x y : Int) (a1 : Option Addr) (l1 c1 : Nat) (a2 : Option Addr) (l2 c2 : Nat) (p : Bool)  (h0 : w.cell? ⟨b, off, none⟩ = some (.int .u16 x)) (h1 : w.cell? ⟨b, off + 1, none⟩ = some (.int .u8 y)) (h2 : w.cell? ⟨b, off + 2, none⟩ = some (.slice a1 l1 c1)) (h3 : w.cell? ⟨b, off + 3, none⟩ = some (.slice a2 l2 c2)) (h4 : w.cell? ⟨b, off + 4, none⟩ = some (.bool p)) (hb : b < w.heap.size):
    Calls Try.prog 6 #[.int .u8 o, .slice a n c, .pointer lp, .pointer (some ⟨b, off, none⟩), .pointer none, .slice ae le ce, .slice ap lpm cpm] w fun e w' => ∃ u, e = .returned (.pointer (some ⟨u, 0, none⟩)) ∧ w'.cell? ⟨u, 1, none⟩ = some (.slice a n c) ∧ Below w.heap.size w w' := by
  go_enter Try.func6, Try.ntmps6
  go_wp2_with fail
  go_region
  go_wp2
  go_ret
  exact ⟨w.heap.size, rfl, by simp, (((Below.refl _ _).alloc (Nat.le_refl _) _).alloc (by simp) _).drew⟩

set_option maxHeartbeats 4000000 in
set_option maxRecDepth 100000 in
theorem upd_ru (o : Int) (a : Option Addr) (n c : Nat) (lp : Option Addr) (ae ap : Option Addr) (le ce lpm cpm : Nat) (w : World)
    (b off : Nat) (x y : Int) (a1 : Option Addr) (l1 c1 : Nat) (a2 : Option Addr) (l2 c2 : Nat) (p : Bool)  (h0 : w.cell? ⟨b, off, none⟩ = some (.int .u16 x)) (h1 : w.cell? ⟨b, off + 1, none⟩ = some (.int .u8 y)) (h2 : w.cell? ⟨b, off + 2, none⟩ = some (.slice a1 l1 c1)) (h3 : w.cell? ⟨b, off + 3, none⟩ = some (.slice a2 l2 c2)) (h4 : w.cell? ⟨b, off + 4, none⟩ = some (.bool p)) (hb : b < w.heap.size)
    (b' off' : Nat) (x' y' : Int) (a1' : Option Addr) (l1' c1' : Nat) (p' : Bool)  (h0' : w.cell? ⟨b', off', none⟩ = some (.int .u16 x')) (h1' : w.cell? ⟨b', off' + 1, none⟩ = some (.int .u8 y')) (h2' : w.cell? ⟨b', off' + 2, none⟩ = some (.slice a1' l1' c1')) (h3' : w.cell? ⟨b', off' + 3, none⟩ = some (.bool p')) (hb' : b' < w.heap.size) :
    Calls Try.prog 6 #[.int .u8 o, .slice a n c, .pointer lp, .pointer (some ⟨b, off, none⟩), .pointer (some ⟨b', off', none⟩), .slice ae le ce, .slice ap lpm cpm] w fun e w' => ∃ u, e = .returned (.pointer (some ⟨u, 0, none⟩)) ∧ w'.cell? ⟨u, 1, none⟩ = some (.slice a n c) ∧ Below w.heap.size w w' := by
  go_enter Try.func6, Try.ntmps6
  go_wp2_with fail
  go_region
  clear h0 h1 h2 h3 h4
  go_wp2_with fail
  go_region
  go_wp2
  go_ret
  refine ⟨w.heap.size, rfl, ?_, (((((Below.refl _ _).alloc (Nat.le_refl _) _).alloc (by simp) _).alloc (by simp; omega) _)).drew.drew⟩
  show ((World.alloc _ _).alloc _).cell? _ = _
  rw [World.cell?_alloc_past _ _ _ (by simp; omega)]
  simp

theorem upd_any (o : Int) (a : Option Addr) (n c : Nat) (lp r un : Option Addr) (ae ap : Option Addr) (le ce lpm cpm : Nat) (w : World) (hr : RView w r) (hu : UView w un) :
    Calls Try.prog 6 #[.int .u8 o, .slice a n c, .pointer lp, .pointer r, .pointer un, .slice ae le ce, .slice ap lpm cpm] w fun e w' => ∃ u, e = .returned (.pointer (some ⟨u, 0, none⟩)) ∧ w'.cell? ⟨u, 1, none⟩ = some (.slice a n c) ∧ Below w.heap.size w w' := by
  rcases hr with rfl | ⟨b, off, x, y, a1, l1, c1, a2, l2, c2, p, rfl, h0, h1, h2, h3, h4⟩
  · rcases hu with rfl | ⟨b', off', x', y', a1', l1', c1', p', rfl, h0', h1', h2', h3'⟩
    · exact upd_nn o a n c lp ae ap le ce lpm cpm w
    · exact upd_un o a n c lp ae ap le ce lpm cpm w b' off' x' y' a1' l1' c1' p' h0' h1' h2' h3' (World.block_lt_of_cell? w _ h0')
  · rcases hu with rfl | ⟨b', off', x', y', a1', l1', c1', p', rfl, h0', h1', h2', h3'⟩
    · exact upd_rn o a n c lp ae ap le ce lpm cpm w b off x y a1 l1 c1 a2 l2 c2 p h0 h1 h2 h3 h4 (World.block_lt_of_cell? w _ h0)
    · exact upd_ru o a n c lp ae ap le ce lpm cpm w b off x y a1 l1 c1 a2 l2 c2 p h0 h1 h2 h3 h4 (World.block_lt_of_cell? w _ h0) b' off' x' y' a1' l1' c1' p' h0' h1' h2' h3' (World.block_lt_of_cell? w _ h0')

end Go.Proofs.Qxb6619368a
