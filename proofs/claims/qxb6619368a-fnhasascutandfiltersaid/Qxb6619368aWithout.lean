/-
  bgpb1Without (8).
-/
import Derived.Test.Qxb6619368aPath
namespace Go.Proofs.Qxb6619368a
open Go.RowKit

/-- What is kept of a segment; how many numbers are struck. -/
def kp (asn : Int) (s : List Int) : List Int := s.filter fun a => !(a == asn)
def rm (asn : Int) (s : List Int) : Nat := (s.filter fun a => a == asn).length
def rms (asn : Int) (ss : List (List Int)) : Nat := (ss.map (rm asn)).sum

theorem take_snoc (s : List Int) (j : Nat) (z : Int) (hj : j < s.length) (hz : s.getD j 0 = z) : s.take (j + 1) = s.take j ++ [z] := by
  rw [List.take_succ_eq_append_getElem hj]
  rw [← hz]; simp [List.getD, hj]
theorem kp_hit (asn : Int) (s : List Int) (j : Nat) (z : Int) (hj : j < s.length) (hz : s.getD j 0 = z) (h : (z == asn) = true) : kp asn (s.take (j + 1)) = kp asn (s.take j) ∧ rm asn (s.take (j + 1)) = rm asn (s.take j) + 1 := by
  rw [take_snoc s j z hj hz]
  constructor
  · unfold kp; rw [List.filter_append]; simp [h]
  · unfold rm; rw [List.filter_append]; simp [h]
theorem kp_miss (asn : Int) (s : List Int) (j : Nat) (z : Int) (hj : j < s.length) (hz : s.getD j 0 = z) (h : (z == asn) = false) : kp asn (s.take (j + 1)) = kp asn (s.take j) ++ [z] ∧ rm asn (s.take (j + 1)) = rm asn (s.take j) := by
  rw [take_snoc s j z hj hz]
  constructor
  · unfold kp; rw [List.filter_append]; simp [h]
  · unfold rm; rw [List.filter_append]; simp [h]
theorem kp_le (asn : Int) (s : List Int) (j : Nat) : (kp asn (s.take j)).length ≤ j := by
  unfold kp
  have := List.length_filter_le (fun a => !(a == asn)) (s.take j)
  have := List.length_take_le j s
  omega
theorem rm_le (asn : Int) (s : List Int) : rm asn s ≤ s.length := List.length_filter_le _ _
theorem rms_succ (asn : Int) (ss : List (List Int)) (s : List Int) (k : Nat) (h : k < ss.length) (hs : s = ss.getD k []) : rms asn (ss.take (k + 1)) = rms asn (ss.take k) + rm asn s := by
  unfold rms
  rw [List.take_succ_eq_append_getElem h, List.map_append, List.sum_append, hs]
  simp [List.getD, h]
theorem rms_le (asn : Int) (ss : List (List Int)) (k : Nat) (h : k ≤ ss.length) : rms asn (ss.take k) ≤ tl ss k := by
  induction k with
  | zero => simp [rms]
  | succ k ih =>
    rw [rms_succ asn ss _ k (by omega) rfl, tl_succ ss k (by omega)]
    have := rm_le asn (ss.getD k [])
    have := ih (by omega)
    omega
theorem tl_mono (ss : List (List Int)) (j k : Nat) (h : j ≤ k) (hk : k ≤ ss.length) : tl ss j ≤ tl ss k := by
  induction k with
  | zero => have : j = 0 := by omega
            subst this; exact Nat.le_refl _
  | succ k ih =>
    by_cases e : j = k + 1
    · subst e; exact Nat.le_refl _
    · rw [tl_succ ss k (by omega)]
      have := ih (by omega) (by omega)
      omega
theorem rm_bound (asn : Int) (ss : List (List Int)) (s : List Int) (k j n : Nat) (hn : ss.length = n) (hk : k < n) (hs : s = ss.getD k []) : rms asn (ss.take k) + rm asn (s.take j) ≤ tl ss n := by
  have h1 := rms_le asn ss k (by omega)
  have h2 := rm_le asn (s.take j)
  have h3 : (s.take j).length ≤ s.length := by simp; omega
  have h4 := tl_succ ss k (by omega)
  have h5 := tl_mono ss (k + 1) n (by omega) (by omega)
  rw [← hs] at h4
  omega
theorem map_next (asn : Int) (ss : List (List Int)) (s : List Int) (k : Nat) (h : k < ss.length) (hs : s = ss.getD k []) : (ss.take (k + 1)).map (kp asn) = (ss.take k).map (kp asn) ++ [kp asn s] := by
  rw [List.take_succ_eq_append_getElem h, List.map_append, hs]
  simp [List.getD, h]

/-- Nothing below the heap's end has turned, but block g. -/
def Keeps (g : Nat) (w w' : World) : Prop := ∀ k, k < w.heap.size → k ≠ g → w'.heap[k]? = w.heap[k]?
theorem Keeps.cell {g : Nat} {w w' : World} (h : Keeps g w w') {p : Addr} {v : Value} (hp : w.cell? p = some v) (hg : p.block ≠ g) : w'.cell? p = some v :=
  (World.cell?_of_block (w := w) (h p.block (World.block_lt_of_cell? w _ hp) hg)).trans hp
theorem Seg.keeps {g : Nat} {w w' : World} {A : Option Addr} {s : List Int} (h : Seg w A s) (hA : ∀ y, A = some y → 0 < s.length → y.block ≠ g) (hk : Keeps g w w') : Seg w' A s := by
  rcases h with h | ⟨y, rfl, hc⟩
  · exact .inl h
  · refine .inr ⟨y, rfl, fun j hj => hk.cell (hc j hj) ?_⟩
    have hb : (y.add j).block = y.block := by unfold Addr.add; split <;> rfl
    rw [hb]
    exact hA y rfl (by omega)
theorem Elems.keeps {g : Nat} {w w' : World} {es : List (Int × Option Addr × Nat × Nat)} {ss : List (List Int)} (h : Elems g w es ss) (hk : Keeps g w w') : Elems g w' es ss :=
  ⟨h.1, fun i hi => by obtain ⟨t, A, C, h1, h2, h3⟩ := h.2 i hi; exact ⟨t, A, C, h1, h2.keeps h3 hk, h3⟩⟩

/-- A row of numbers of the call's own, as a segment. -/
theorem own_seg {w : World} {base h n cap : Nat} {s : List Int} (ho : w.ownsRow base 23 1 (.slice (some ⟨h, 0, none⟩) n cap) n (s.map (Value.int .u32))) : Seg w (some ⟨h, 0, none⟩) s := by
  refine .inr ⟨_, rfl, fun j hj => ho.cells rfl _ _ ?_⟩
  simp [List.getD, hj]

/-- What the round's last append does to the relation. -/
theorem step_seg {w wr wx w2 : World} {n cap m L : Nat} {t : Int} {es : List (Int × Option Addr × Nat × Nat)} {ss : List (List Int)} {s : List Int}
    (hel : Elems w.heap.size wr es ss) (hB : Below w.heap.size w wr) (hg : w.heap.size < wr.heap.size) (hBx : Below wr.heap.size wr wx)
    (hm : s.length = m) (hk : wx.ownsRow wr.heap.size 23 1 (.slice (some ⟨wr.heap.size, 0, none⟩) m L) m (s.map (Value.int .u32)))
    (hown : w2.ownsRow w.heap.size 56 2 (.slice (some ⟨w.heap.size, 0, none⟩) (n + 1) cap) (n + 1) (flat es ++ [.int .u8 t, .slice (some ⟨wr.heap.size, 0, none⟩) m L]))
    (hgrow : (wx.alloc (.cells #[.int .u8 t, .slice (some ⟨wr.heap.size, 0, none⟩) m L] 56)).grownBy w2 (some w.heap.size)) :
    ∃ es', w2.ownsRow w.heap.size 56 2 (.slice (some ⟨w.heap.size, 0, none⟩) (n + 1) cap) (n + 1) (flat es') ∧ Elems w.heap.size w2 es' (ss ++ [s]) ∧ Below w.heap.size w w2 ∧ w.heap.size < w2.heap.size := by
  have hsz := hBx.size
  have hgs := hgrow.size
  simp at hgs
  have hK : Keeps w.heap.size wx w2 := fun k hk hne => by
    rw [hgrow.block k (by simp; omega) (by simpa using hne), Below.heap_alloc _ _ _ hk]
  have hel2 := (hel.keeps (fun k hk _ => hBx.block k hk : Keeps w.heap.size wr wx)).keeps hK
  have hsg := own_seg hk
  have hne : ∀ y, some (⟨wr.heap.size, 0, none⟩ : Addr) = some y → 0 < s.length → y.block ≠ w.heap.size := by
    intro y hy _
    obtain rfl := Option.some.inj hy
    show wr.heap.size ≠ w.heap.size
    omega
  subst hm
  refine ⟨es ++ [(t, some ⟨wr.heap.size, 0, none⟩, s.length, L)], by rw [flat_snoc]; exact hown, hel2.snoc t _ L s (hsg.keeps hne hK) hne, ?_, by omega⟩
  have hB3 := ((hB.trans (hBx.mono (by omega))).alloc (by omega) (.cells #[.int .u8 t, .slice (some ⟨wr.heap.size, 0, none⟩) s.length L] 56))
  exact hB3.grown hgrow (by simp; omega) (fun q hq => by simp at hq; omega)

theorem own_kept56 {w w' : World} {base : Nat} {v : Value} {n : Nat} {xs : List Value} (h : w.ownsRow base 56 2 v n xs) (hb : Below w.heap.size w w') : w'.ownsRow base 56 2 v n xs := by
  refine ⟨h.1, ?_⟩
  rcases h.2 with h2 | ⟨g, cap, cur, hv, hg, hh, r⟩
  · exact Or.inl h2
  · exact Or.inr ⟨g, cap, cur, hv, hg, by rw [hb.block g (lt_of_block hh)]; exact hh, r⟩

/-- What is handed back. -/
def WPost (w : World) (n : Nat) (asn : Int) (ss : List (List Int)) (e : Ending) (w' : World) : Prop := ∃ a' c', e = .returned (.tuple #[.slice a' n c', .int .i64 (rms asn ss : Nat)]) ∧ View w' a' n (ss.map (kp asn)) ∧ Below w.heap.size w w'
theorem wpost {w : World} {n : Nat} {asn : Int} {ss : List (List Int)} {w' : World} {a' : Option Addr} {c' : Nat} {z : Int} (hz : z = (rms asn ss : Nat)) (h2 : View w' a' n (ss.map (kp asn))) (h3 : Below w.heap.size w w') : WPost w n asn ss (.returned (.tuple #[.slice a' n c', .int .i64 z])) w' := ⟨a', c', by rw [hz], h2, h3⟩

set_option maxHeartbeats 4000000 in
set_option maxRecDepth 100000 in
theorem without_any (a : Option Addr) (n c : Nat) (ss : List (List Int)) (asn : Int) (w : World) (hv : View w a n ss) (hn : n + tl ss n ≤ 1048576) :
    Calls Try.prog 8 #[.slice a n c, .int .u32 asn] w (WPost w n asn ss) := by
  obtain ⟨i0, hi0, hz0, hz1, hz2⟩ := info_parts Try.info56
  obtain ⟨j0, hj0, hy0, hy1, hy2⟩ := info_parts Try.info23
  have hss : ss.length = n := hv.1
  go_enter Try.func8, Try.ntmps8
  go_wp2_with (at_make; refine wpList_make_own _ rfl _ _ 33 rfl w.heap.size 56 i0 (.agg #[.int .u8 0, .slice none 0 0]) 2 Try.underlying33 hi0 hz0 hz1 .i64 .i64 _ n rfl rfl (by omega) (by rw [hz2]; omega) (by unfold maxLen; omega) (Nat.le_refl _) ?_)
  intro w1 hown0 hgrow0
  have hB0 : Below w.heap.size w w1 := (Below.refl _ _).grown hgrow0 (Nat.le_refl _) (fun k h => by cases h)
  have hgl0 : w.heap.size < w1.heap.size := (hown0.lt w.heap.size rfl).2
  clear hgrow0
  go_wp2_with fail
  go_loopw [6, 7, 8] (fun v r i wr => ∃ k es, k ≤ n ∧ i = .int .i64 (k : Nat) ∧ v = .slice (some ⟨w.heap.size, 0, none⟩) k n ∧ r = .int .i64 (rms asn (ss.take k) : Nat) ∧ wr.ownsRow w.heap.size 56 2 (.slice (some ⟨w.heap.size, 0, none⟩) k n) k (flat es) ∧ Elems w.heap.size wr es ((ss.take k).map (kp asn)) ∧ Below w.heap.size w wr ∧ w.heap.size < wr.heap.size) (fun _ _ i _ => n - (intOf i).toNat)
  case atStart => exact ⟨0, [], Nat.zero_le _, rfl, rfl, rfl, hown0, Elems.nil _ _, hB0, hgl0⟩
  case round =>
    obtain ⟨k, es, hk, rfl, rfl, rfl, hown, hel, hB, hgl⟩ := hrel
    clear hown0 hB0 hgl0
    by_cases hlt : k < n
    · obtain ⟨b, off, t, A, C, s, hx, hb, hsk, c0, c1, hsg⟩ := (hv.kept hB).at k hlt
      subst hx
      have hsl : s.length ≤ 1048576 := by
        have h1 := tl_succ ss k (by omega)
        have h2 := tl_mono ss (k + 1) n (by omega) (by omega)
        rw [← hsk] at h1
        omega
      have HRB : Hid (∀ j, rms asn (ss.take k) + rm asn (s.take j) ≤ tl ss n) := fun j => rm_bound asn ss s k j n hss hlt hsk
      have HRS : Hid _ := rms_succ asn ss s k (by omega) hsk
      have HMN : Hid _ := map_next asn ss s k (by omega) hsk
      generalize htn : tl ss n = T at *
      generalize hr0 : rms asn (ss.take k) = r0 at *
      clear htn hr0 hsk hv
      obtain ⟨WA, rfl⟩ : ∃ y, y = wr := ⟨_, rfl⟩
      go_wp2_with (at_make; refine wpList_make_own _ rfl _ _ 38 rfl WA.heap.size 23 j0 (.int .u32 0) 1 Try.underlying38 hj0 hy0 hy1 .i64 .i64 _ s.length rfl rfl (by omega) (by rw [hy2]; omega) (by unfold maxLen; omega) (Nat.le_refl _) ?_)
      intro w2 hkeep0 hgrow0
      have hBk0 : Below WA.heap.size WA w2 := (Below.refl _ _).grown hgrow0 (Nat.le_refl _) (fun k h => by cases h)
      clear hgrow0
      go_wp2_with fail
      go_loopw [7, 10, 11] (fun r v i wx => ∃ j, j ≤ s.length ∧ i = .int .i64 (j : Nat) ∧ v = .slice (some ⟨WA.heap.size, 0, none⟩) (kp asn (s.take j)).length s.length ∧ r = .int .i64 (r0 + rm asn (s.take j) : Nat) ∧ wx.ownsRow WA.heap.size 23 1 (.slice (some ⟨WA.heap.size, 0, none⟩) (kp asn (s.take j)).length s.length) (kp asn (s.take j)).length ((kp asn (s.take j)).map (Value.int .u32)) ∧ Below WA.heap.size WA wx) (fun _ _ i _ => s.length - (intOf i).toNat)
      case atStart => exact ⟨0, Nat.zero_le _, rfl, rfl, rfl, hkeep0, hBk0⟩
      case round =>
        clear hkeep0 hBk0
        obtain ⟨j, hj, rfl, rfl, rfl, hkeep, hBk⟩ := hrel
        have hkl := kp_le asn s j
        have hrb := HRB.out j
        by_cases hjl : j < s.length
        · obtain ⟨b', off', rfl, hb', cj⟩ := (hsg.kept hBk).at j hjl
          generalize hz : s.getD j 0 = z at *
          have HZ : Hid _ := hz
          clear hz
          by_cases he : (z == asn) = true
          · have R : Hid _ := kp_hit asn s j z hjl HZ.out he
            generalize hq : kp asn (s.take j) = q at *
            generalize hrr : rm asn (s.take j) = rr at *
            clear hq hrr
            go_wp2_with fail
            go_roundw
            case rel => exact ⟨j + 1, by omega, by go_num, by rw [R.out.1], by rw [R.out.2]; go_num, by rw [R.out.1]; exact hkeep, hBk⟩
            case measure => simp [intOf]; omega
          · have he' : (z == asn) = false := by simpa using he
            have R : Hid _ := kp_miss asn s j z hjl HZ.out he'
            clear he
            generalize hq : kp asn (s.take j) = q at *
            generalize hrr : rm asn (s.take j) = rr at *
            clear hq hrr
            go_wp2_with (at_builtin; refine wpList_append_fits _ rfl (.tmp 43) (.tmp 48) 38 rfl WA.heap.size 23 j0 1 Try.underlying38 hj0 hy1 WA.heap.size q.length s.length (q.map (Value.int .u32)) rfl (by exact hkeep.alloc _) ⟨wr.heap.size, 0, none⟩ 1 1 [.int .u32 z] rfl rfl (by intro i u hi; match i, hi with | 0, hi => (simp at hi; subst hi; simp [Addr.add])) (by intro u hu; simp at hu; subst hu; rfl) (by omega) ?_)
            intro w3 hk3 hg3
            have hB3 : Below WA.heap.size WA w3 := (hBk.alloc hBk.size _).grown hg3 (by simp; have := hBk.size; omega) (fun q hq => by simp at hq; omega)
            have R2 : Hid _ := And.intro hk3 hB3
            clear hk3 hg3 hB3 hkeep hBk
            go_wp2_with fail
            go_roundw
            case rel => exact ⟨j + 1, by omega, by go_num, by rw [R.out.1]; simp, by rw [R.out.2]; go_num, by rw [R.out.1]; simpa using R2.out.1, R2.out.2⟩
            case measure => simp [intOf]; omega
        · obtain rfl : j = s.length := by omega
          rw [List.take_of_length_le (Nat.le_refl _)] at hkeep hkl hrb ⊢
          generalize hq : kp asn s = q at *
          generalize hrr : rm asn s = rr at *
          clear hq hrr
          have hownx := own_kept56 hown hBk
          have d0 := (hBk.cell (p := ⟨b, off + k * 2, none⟩) hb).trans c0
          have hbx : b < wr.heap.size := Nat.lt_of_lt_of_le hb hBk.size
          clear c0 c1 hsg
          go_wp2_with (at_builtin; refine wpList_append_fits _ rfl (.tmp 50) (.tmp 58) 33 rfl w.heap.size 56 i0 2 Try.underlying33 hi0 hz1 w.heap.size k n (flat es) rfl (by exact hownx.alloc _) ⟨wr.heap.size, 0, none⟩ 1 1 [.int .u8 t, .slice (some ⟨WA.heap.size, 0, none⟩) q.length s.length] rfl rfl (by intro i u hi; match i, hi with | 0, hi => (simp at hi; subst hi; simp [Addr.add]) | 1, hi => (simp at hi; subst hi; simp [Addr.add])) (by intro u hu; simp at hu; rcases hu with rfl | rfl <;> rfl) (by omega) ?_)
          intro w3 hk3 hg3
          have R2 : Hid _ := step_seg hel hB hgl hBk rfl hkeep hk3 hg3
          clear hk3 hg3 hkeep hBk hown hownx hel hB hgl
          go_wp2_with fail
          go_roundw
          case rel =>
            obtain ⟨es', r1, r2, r3, r4⟩ := R2.out
            exact ⟨k + 1, es', by omega, by go_num, rfl, by rw [HRS.out]; go_num, r1, by rw [HMN.out]; exact r2, r3, r4⟩
          case measure => simp [intOf]; omega
    · obtain rfl : n = k := by omega
      have hts : ss.take n = ss := List.take_of_length_le (by omega)
      rw [hts] at hel ⊢
      have R : Hid _ := And.intro (own_view hown hel) hB
      clear hown hel hB hv hts
      go_wp2_with fail
      go_ret2
      exact wpost rfl R.out.1 R.out.2

end Go.Proofs.Qxb6619368a
