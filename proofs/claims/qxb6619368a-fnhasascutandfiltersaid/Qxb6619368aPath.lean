/-
  bgpb1Path (7).
-/
import Derived.Test.Qxb6619368aSize
import Derived.Deep.RegionLaw
namespace Go.Proofs.Qxb6619368a
open Go.RowKit

theorem Try.info56 : (Try.prog.info? 56).map (fun i => (i.zero, i.size, i.bytes)) = some (some (.agg #[.int .u8 0, .slice none 0 0]), 2, 32) := by kernel_rfl
theorem Try.info23 : (Try.prog.info? 23).map (fun i => (i.zero, i.size, i.bytes)) = some (some (.int .u32 0), 1, 4) := by kernel_rfl

/-- append WITHIN THE CAPACITY of a row of the call's own, as one step of a region that draws. -/
theorem step_append_fits {P : Program} {ops : Array Oper} {o : Oper} {a : Act} {w : World} {K : Act → World → Prop} {Q : Exit → Act → World → Prop} {E : Prop}
    (hg : o.guard = none) (s x : Operand) (t : TypeId) (hop : o.op = Op.call { callee := Callee.builtin Builtin.append, args := #[s, x], argTypes := #[t, t] })
    (base : Nat) (e : TypeId) (i : TypeInfo) (size : Nat) (h1 : P.underlying t = some (.slice e)) (h2 : P.info? e = some i) (h4 : i.size = size)
    (g k cap : Nat) (xs : List Value) (hs : a.eval s = .slice (some ⟨g, 0, none⟩) k cap) (hown : w.ownsRow base e size (.slice (some ⟨g, 0, none⟩) k cap) k xs) (ad : Addr) (m c : Nat) (news : List Value) (hx : a.eval x = .slice (some ad) m c) (hn : news.length = m * size)
    (hc : ∀ j u, news[j]? = some u → w.cell? (ad.add j) = some u) (h1c : ∀ u ∈ news, u.oneCell' = true) (b1 : k + m ≤ cap)
    (hK : ∀ w', w'.ownsRow base e size (.slice (some ⟨g, 0, none⟩) (k + m) cap) (k + m) (xs ++ news) → w.grownBy w' (some g) → K (a.put o.dst (.slice (some ⟨g, 0, none⟩) (k + m) cap)) w') :
    if Region.wanted o (yielded ops a.tmps) = true then Oper.wp P o a w K Q else E := by
  have hw : Region.wanted o (yielded ops a.tmps) = true := by simp [Region.wanted, hg]
  rw [if_pos hw]
  obtain ⟨w', hrun, r1, r2⟩ := run_append_fits (P := P) w base t o.type e i size h1 h2 h4 g k cap xs hown ad m c news hn hc h1c b1
  unfold Oper.wp
  simp only [execOp, hop, resolve, invoke, builtin, Sem.run_bind, Sem.run_pure, Result.andThen_ok, List.map_toArray, List.map_cons, List.map_nil, hs, hx, hrun]
  exact hK w' r1 r2

/-- A segment as it lies in a row: its type, its slice. -/
def flat (es : List (Int × Option Addr × Nat × Nat)) : List Value := es.flatMap fun e => [.int .u8 e.1, .slice e.2.1 e.2.2.1 e.2.2.2]

theorem flat_snoc (es : List (Int × Option Addr × Nat × Nat)) (t : Int) (A : Option Addr) (L C : Nat) : flat (es ++ [(t, A, L, C)]) = flat es ++ [.int .u8 t, .slice A L C] := by simp [flat]
theorem flat_length (es : List (Int × Option Addr × Nat × Nat)) : (flat es).length = es.length * 2 := by
  induction es with
  | nil => rfl
  | cons e es ih => simp only [flat, List.flatMap_cons, List.length_append, List.length_cons, List.length_nil] at ih ⊢; omega
theorem flat_at (es : List (Int × Option Addr × Nat × Nat)) (i : Nat) (t : Int) (A : Option Addr) (L C : Nat) (h : es[i]? = some (t, A, L, C)) : (flat es)[i * 2]? = some (.int .u8 t) ∧ (flat es)[i * 2 + 1]? = some (.slice A L C) := by
  induction es generalizing i with
  | nil => simp at h
  | cons e es ih =>
    cases i with
    | zero => simp at h; subst h; simp [flat]
    | succ i =>
      have := ih i (by simpa using h)
      rw [show (i + 1) * 2 = i * 2 + 2 by omega]
      simpa [flat] using this

/-- The row's segments are those of a path; none of their numbers lies in block g. -/
def Elems (g : Nat) (w : World) (es : List (Int × Option Addr × Nat × Nat)) (ss : List (List Int)) : Prop :=
  es.length = ss.length ∧ ∀ i, i < ss.length → ∃ t A C, es[i]? = some (t, A, (ss.getD i []).length, C) ∧ Seg w A (ss.getD i []) ∧ ∀ y, A = some y → 0 < (ss.getD i []).length → y.block ≠ g

theorem getD_left (ss : List (List Int)) (s : List Int) (i : Nat) (h : i < ss.length) : (ss ++ [s]).getD i [] = ss.getD i [] := by
  simp only [List.getD, List.getElem?_append_left h]
theorem Elems.nil (g : Nat) (w : World) : Elems g w [] [] := ⟨rfl, fun i hi => by simp at hi⟩
theorem Elems.snoc {g : Nat} {w : World} {es : List (Int × Option Addr × Nat × Nat)} {ss : List (List Int)} (h : Elems g w es ss) (t : Int) (A : Option Addr) (C : Nat) (s : List Int) (hs : Seg w A s) (hA : ∀ y, A = some y → 0 < s.length → y.block ≠ g) :
    Elems g w (es ++ [(t, A, s.length, C)]) (ss ++ [s]) := by
  refine ⟨by simp [h.1], fun i hi => ?_⟩
  by_cases hlt : i < ss.length
  · obtain ⟨t', A', C', h1, h2, h3⟩ := h.2 i hlt
    refine ⟨t', A', C', ?_, ?_, by rw [getD_left ss s i hlt]; exact h3⟩
    · rw [List.getElem?_append_left (by rw [h.1]; exact hlt), h1, getD_left ss s i hlt]
    · rw [getD_left ss s i hlt]; exact h2
  · have : i = ss.length := by simp at hi; omega
    subst this
    refine ⟨t, A, C, ?_, ?_, by simpa [List.getD] using hA⟩
    · rw [List.getElem?_append_right (by rw [h.1]; exact Nat.le_refl _)]
      simp [h.1]
    · simpa [List.getD] using hs

theorem Elems.kept {g : Nat} {w w' : World} {es : List (Int × Option Addr × Nat × Nat)} {ss : List (List Int)} (h : Elems g w es ss) (hb : Below w.heap.size w w') : Elems g w' es ss :=
  ⟨h.1, fun i hi => by obtain ⟨t, A, C, h1, h2, h3⟩ := h.2 i hi; exact ⟨t, A, C, h1, h2.kept hb, h3⟩⟩
theorem Seg.apart {w : World} {A : Option Addr} {s : List Int} {g : Nat} (h : Seg w A s) (hg : w.heap.size ≤ g) : ∀ y, A = some y → 0 < s.length → y.block ≠ g := by
  intro y hy h0
  obtain ⟨b, off, rfl, hb, _⟩ := h.at 0 h0
  obtain rfl := Option.some.inj hy
  show b ≠ g
  omega
theorem take_next (ss : List (List Int)) (s : List Int) (lo k m : Nat) (hm : k - lo = m) (h0 : lo ≤ k) (hk : k < ss.length) (hs : s = ss.getD k []) : (ss.drop lo).take (m + 1) = (ss.drop lo).take m ++ [s] := by
  rw [List.take_succ_eq_append_getElem (by simp; omega), List.getElem_drop, hs]
  have e : lo + m = k := by omega
  simp only [List.getD, e, List.getElem?_eq_getElem hk, Option.getD_some]

theorem own_view {w : World} {base g n cap : Nat} {es : List (Int × Option Addr × Nat × Nat)} {ss : List (List Int)} (h : w.ownsRow base 56 2 (.slice (some ⟨g, 0, none⟩) n cap) n (flat es)) (he : Elems g w es ss) : View w (some ⟨g, 0, none⟩) n ss := by
  have hl := h.1
  rw [flat_length] at hl
  have hn : ss.length = n := by rw [← he.1]; omega
  refine ⟨hn, .inr ⟨_, rfl, fun i hi => ?_⟩⟩
  obtain ⟨t, A, C, h1, h2, _⟩ := he.2 i (by omega)
  obtain ⟨f0, f1⟩ := flat_at es i t A _ C h1
  exact ⟨t, A, C, h.cells rfl _ _ f0, h.cells rfl _ _ f1, h2⟩

/-- A new path that is handed back. -/
def PPost (w : World) (n : Nat) (ss : List (List Int)) (e : Ending) (w' : World) : Prop := ∃ a' m c', e = .returned (.slice a' m c') ∧ m ≤ n ∧ View w' a' m ss ∧ Below w.heap.size w w'
theorem ppost {w : World} {n : Nat} {ss : List (List Int)} {w' : World} {a' : Option Addr} {m c' : Nat} (h1 : m ≤ n) (h2 : View w' a' m ss) (h3 : Below w.heap.size w w') : PPost w n ss (.returned (.slice a' m c')) w' := ⟨a', m, c', rfl, h1, h2, h3⟩

set_option maxHeartbeats 4000000 in
set_option maxRecDepth 100000 in
theorem path_any (a : Option Addr) (n c : Nat) (ss : List (List Int)) (lo hi : Nat) (w : World) (hv : View w a n ss) (hlo : lo ≤ hi) (hhi : hi ≤ n) (hn : n ≤ 1048576) (hnil : a = none → c = 0) :
    Calls Try.prog 7 #[.slice a n c, .int .i64 lo, .int .i64 hi] w (PPost w n ((ss.drop lo).take (hi - lo))) := by
  obtain ⟨i0, hi0, hz0, hz1, hz2⟩ := info_parts Try.info56
  have hss : ss.length = n := hv.1
  cases a with
  | none =>
    obtain rfl := hnil rfl
    have hn0 : n = 0 := by
      rcases hv.2 with ⟨_, h0⟩ | ⟨x, hx, _⟩
      · exact h0
      · cases hx
    subst hn0
    obtain rfl : ss = [] := List.eq_nil_of_length_eq_zero hss
    have hne := fun wx => Lib.run_eql_slice_nil (P := Try.prog) wx 22 40 none 0 0 0 0 Try.underlying22
    go_enter Try.func7, Try.ntmps7
    go_wp2
    go_ret
    exact ppost (Nat.le_refl _) ⟨by simp, .inl ⟨rfl, rfl⟩⟩ (Below.refl _ _)
  | some x =>
    have hne := fun wx => Lib.run_eql_slice_nil (P := Try.prog) wx 22 40 (some x) n c 0 0 Try.underlying22
    go_enter Try.func7, Try.ntmps7
    go_wp2_with (at_make; refine wpList_make_own _ rfl _ _ 33 rfl w.heap.size 56 i0 (.agg #[.int .u8 0, .slice none 0 0]) 2 Try.underlying33 hi0 hz0 hz1 .i64 .i64 _ (hi - lo) rfl rfl (by omega) (by rw [hz2]; omega) (by unfold maxLen; omega) (Nat.le_refl _) ?_)
    intro w1 hown0 hgrow0
    have hB0 : Below w.heap.size w w1 := (Below.refl _ _).grown hgrow0 (Nat.le_refl _) (fun k h => by cases h)
    clear hgrow0
    go_wp2_with fail
    go_loopw [7, 8] (fun v i wr => ∃ k es, lo ≤ k ∧ k ≤ hi ∧ i = .int .i64 (k : Nat) ∧ v = .slice (some ⟨w.heap.size, 0, none⟩) (k - lo) (hi - lo) ∧ wr.ownsRow w.heap.size 56 2 (.slice (some ⟨w.heap.size, 0, none⟩) (k - lo) (hi - lo)) (k - lo) (flat es) ∧ Elems w.heap.size w es ((ss.drop lo).take (k - lo)) ∧ Below w.heap.size w wr) (fun _ i _ => hi - (intOf i).toNat)
    case atStart => exact ⟨lo, [], Nat.le_refl _, hlo, rfl, by rw [Nat.sub_self], by rw [Nat.sub_self]; exact hown0, by rw [Nat.sub_self]; exact Elems.nil _ _, hB0⟩
    case round =>
      obtain ⟨k, es, hk0, hk, rfl, rfl, hown, hel, hB⟩ := hrel
      clear hown0 hB0
      by_cases hlt : k < hi
      · obtain ⟨b, off, t, A, C, s, hx, hb, hsk, c0, c1, hsg⟩ := hv.at k (by omega)
        have d0 := (hB.cell (p := ⟨b, off + k * 2, none⟩) hb).trans c0
        have d1 := (hB.cell (p := ⟨b, off + k * 2 + 1, none⟩) hb).trans c1
        obtain rfl : x = ⟨b, off, none⟩ := by simpa using hx
        have hb' : b < wr.heap.size := Nat.lt_of_lt_of_le hb hB.size
        have hkn : (k : Int) < (n : Int) := by omega
        generalize hm : k - lo = m at *
        have HM : Hid _ := hm
        have hmr : m + 1 ≤ hi - lo := by omega
        have HSK : Hid _ := hsk
        clear hx c0 c1 hv hm hsk
        go_wp2_with fail
        go_region_law (refine step_append_fits rfl (.tmp 21) (.tmp 33) 33 rfl w.heap.size 56 i0 2 Try.underlying33 hi0 hz1 w.heap.size m (hi - lo) (flat es) rfl (by exact hown.alloc _) ⟨wr.heap.size, 0, none⟩ 1 1 [.int .u8 t, .slice A s.length C] rfl rfl (by intro j u hj; match j, hj with | 0, hj => (simp at hj; subst hj; simp [Addr.add]) | 1, hj => (simp at hj; subst hj; simp [Addr.add])) (by intro u hu; simp at hu; rcases hu with rfl | rfl <;> rfl) (by omega) ?_; intro w2 hown2 hgrow2)
        all_goals
          have hB2 : Below w.heap.size w w2 := (hB.alloc hB.size _).drew.grown hgrow2 (by simp; have := hB.size; omega) (fun q hq => by simp at hq; omega)
          have R : Hid _ := And.intro (by rw [← flat_snoc] at hown2; exact hown2) (And.intro (hel.snoc t A C s hsg (hsg.apart (Nat.le_refl _))) hB2)
          clear hown2 hgrow2 hB2 hB hown hel
          go_wp2_with fail
          go_roundw
          case rel =>
            have hm1 : k + 1 - lo = m + 1 := by have := HM.out; omega
            have hts : (ss.drop lo).take (m + 1) = (ss.drop lo).take m ++ [s] := take_next ss s lo k m HM.out hk0 (by omega) HSK.out
            exact ⟨k + 1, _, by omega, by omega, by go_num, by rw [hm1], by rw [hm1]; exact R.out.1, by rw [hm1, hts]; exact R.out.2.1, R.out.2.2⟩
          case measure => simp [intOf]; omega
      · obtain rfl : hi = k := by omega
        have R : Hid _ := And.intro (own_view hown (hel.kept hB)) hB
        clear hown hel hB hv
        go_wp2_with fail
        go_ret
        exact ppost (by omega) R.out.1 R.out.2

end Go.Proofs.Qxb6619368a
