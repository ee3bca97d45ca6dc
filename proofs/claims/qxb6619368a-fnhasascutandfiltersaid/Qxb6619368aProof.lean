/-
  The statement FnHasASCutAndFilterSaid: the row over the law's walk.
-/
import Derived.Test.Qxb6619368aLaw
import Derived.ProofKit
import Derived.OpenShut
import Derived.ShutString
import Derived.ChangeOld
import Derived.Deep.SlicePairs
import Derived.Deep.Fields
namespace Go.Proofs.Qxb6619368a
open Go.ChangeShapes Go.WideShapes Go.ChangeAt Go.RowKit Go.Deep

theorem own : ownKnob Try.prog.godebug = none := by kernel_rfl
theorem laidOut : laidOutB Try.prog = true := by kernel_rfl

section
variable {H : Type} {enc : TypeId × Value → H} {W : World}

/-- A slice of uint32, read as data: what the walk is told of it. -/
theorem seg_of {fuel : Nat} {v : Value} {x : DataW H × List MemPlace} (h : DataW.trod enc Try.prog W 0 (fun _ => true) true fuel 38 [v] = some x) : ∃ A L C, v = .slice A L C ∧ ∃ s, s.length = L ∧ Seg W A s := by
  rcases open_ints Try.underlying38 Try.underlying23 (by kernel_rfl) h with ⟨hcs, _⟩ | ⟨y, l, c, zs, hcs, _, hl, hm, hz, _, hcell, _⟩
  · simp at hcs
    subst hcs
    exact ⟨none, 0, 0, rfl, [], rfl, .inl ⟨rfl, rfl⟩⟩
  · simp at hcs
    subst hcs
    simp only [if_true] at hz
    refine ⟨some y, l, c, rfl, zs.take l, by simp; omega, .inr ⟨y, rfl, fun j hj => ?_⟩⟩
    have hjl : j < l := by simp at hj; omega
    rw [hcell j (by omega)]
    simp [List.getD, hjl]

/-- A slice of uint8, read as data: it is a slice. -/
theorem bytes_of {fuel : Nat} {v : Value} {x : DataW H × List MemPlace} (h : DataW.trod enc Try.prog W 0 (fun _ => true) true fuel 28 [v] = some x) : ∃ A L C, v = .slice A L C := by
  rcases open_ints Try.underlying28 Try.underlying5 (by kernel_rfl) h with ⟨hcs, _⟩ | ⟨y, l, c, zs, hcs, _⟩
  · simp at hcs; exact ⟨_, _, _, hcs⟩
  · simp at hcs; exact ⟨_, _, _, hcs⟩

theorem view_of {a : Option Addr} {n c : Nat} {d : DataW H} {p : List MemPlace} (h : DataW.Trod enc Try.prog W 0 (fun _ => true) true 22 (.slice a n c) d p) : ∃ ss, View W a n ss ∧ (a = none → c = 0) := by
  obtain ⟨fuel, hf⟩ := h
  rcases open_slice_pairs Try.underlying22 Try.underlying40 (by kernel_rfl) rfl rfl (by kernel_rfl) (by kernel_rfl) hf with ⟨hcs, _⟩ | ⟨x, l, cp, m, q, V0, V1, D0, D1, P0, P1, hcs, _, hl, hm, hmm, _, hx⟩
  · simp [Value.cells] at hcs
    obtain ⟨rfl, rfl, rfl⟩ := hcs
    exact ⟨[], ⟨rfl, .inl ⟨rfl, rfl⟩⟩, fun _ => rfl⟩
  · simp [Value.cells] at hcs
    obtain ⟨rfl, rfl, rfl⟩ := hcs
    simp only [if_true] at hmm
    subst hmm
    have each : ∀ i, i < n → ∃ s : List Int, ∃ t A C, W.cell? (x.add (i * 2)) = some (.int .u8 t) ∧ W.cell? (x.add (i * 2 + 1)) = some (.slice A s.length C) ∧ Seg W A s := by
      intro i hi
      obtain ⟨h1, h2, h3, h4⟩ := hx i (by omega)
      obtain ⟨t, ht, _⟩ := DataW.trod_int Try.underlying5 h3
      obtain ⟨A, L, C, hv, s, hs, hsg⟩ := seg_of h4
      simp at ht
      refine ⟨s, t, A, C, by rw [h1, ht], by rw [h2, hv, hs], hsg⟩
    obtain ⟨S, hS⟩ := choose_lt each
    refine ⟨(List.range n).map S, ⟨by simp, .inr ⟨x, rfl, fun i hi => ?_⟩⟩, fun h => by cases h⟩
    have e : ((List.range n).map S).getD i [] = S i := by simp [List.getD, hi]
    rw [e]
    exact hS i hi

theorem rview_of {r : Option Addr} {d : DataW H} {p : List MemPlace} (h : DataW.Trod enc Try.prog W 0 (fun _ => true) true 25 (.pointer r) d p) : RView W r := by
  obtain ⟨fuel, hf⟩ := h
  rcases open_ptr_fields Try.underlying25 Try.underlying43 (hone_of (by kernel_rfl)) (by kernel_rfl) (by decide) hf with ⟨hcs, _⟩ | ⟨b, o, n, V, Y, hcs, _, _, hx⟩
  · simp [Value.cells] at hcs
    exact .inl hcs
  · simp [Value.cells] at hcs
    subst hcs
    obtain ⟨c0, t0⟩ := hx 0 _ rfl
    obtain ⟨c1, t1⟩ := hx 1 _ rfl
    obtain ⟨c2, t2⟩ := hx 2 _ rfl
    obtain ⟨c3, t3⟩ := hx 3 _ rfl
    obtain ⟨c4, t4⟩ := hx 4 _ rfl
    obtain ⟨x0, e0, _⟩ := DataW.trod_int Try.underlying41 t0
    obtain ⟨x1, e1, _⟩ := DataW.trod_int Try.underlying5 t1
    obtain ⟨A2, L2, C2, e2⟩ := bytes_of t2
    obtain ⟨A3, L3, C3, e3⟩ := bytes_of t3
    obtain ⟨x4, e4, _⟩ := DataW.trod_bool Try.underlying4 t4
    simp at e0 e1 e4
    rw [e0] at c0; rw [e1] at c1; rw [e2] at c2; rw [e3] at c3; rw [e4] at c4
    exact .inr ⟨b, o, x0, x1, A2, L2, C2, A3, L3, C3, x4, rfl, c0, c1, c2, c3, c4⟩

theorem uview_of {r : Option Addr} {d : DataW H} {p : List MemPlace} (h : DataW.Trod enc Try.prog W 0 (fun _ => true) true 26 (.pointer r) d p) : UView W r := by
  obtain ⟨fuel, hf⟩ := h
  rcases open_ptr_fields Try.underlying26 Try.underlying45 (hone_of (by kernel_rfl)) (by kernel_rfl) (by decide) hf with ⟨hcs, _⟩ | ⟨b, o, n, V, Y, hcs, _, _, hx⟩
  · simp [Value.cells] at hcs
    exact .inl hcs
  · simp [Value.cells] at hcs
    subst hcs
    obtain ⟨c0, t0⟩ := hx 0 _ rfl
    obtain ⟨c1, t1⟩ := hx 1 _ rfl
    obtain ⟨c2, t2⟩ := hx 2 _ rfl
    obtain ⟨c3, t3⟩ := hx 3 _ rfl
    obtain ⟨x0, e0, _⟩ := DataW.trod_int Try.underlying41 t0
    obtain ⟨x1, e1, _⟩ := DataW.trod_int Try.underlying5 t1
    obtain ⟨A2, L2, C2, e2⟩ := bytes_of t2
    obtain ⟨x3, e3, _⟩ := DataW.trod_bool Try.underlying4 t3
    simp at e0 e1 e3
    rw [e0] at c0; rw [e1] at c1; rw [e2] at c2; rw [e3] at c3
    exact .inr ⟨b, o, x0, x1, A2, L2, C2, x3, rfl, c0, c1, c2, c3⟩
end

set_option maxRecDepth 100000 in
theorem lifted (os : Os) (started : os.Started) (H : Type) (enc : TypeId × Value → H) :
    ReturnsInHanded {} Try.checked os 3 .any (Rows.fnHasASCutAndFilterSpec.pre6 enc Try.prog Try.f3 Rows.fnHasASCutAndFilterRow.domain false) (Rows.fnHasASCutAndFilterSpec.post enc Try.prog Try.f3 false true false false) := by
  refine returnsInHanded_of_change (C := Try.checked) own started (by kernel_rfl) Try.func3
    (ChangeSpec.witness6 (enc := enc) (C := Try.checked) false ⟨#[], #[.slice none 0 0, .int .i64 0, .int .u32 0, .int .u8 0, .pointer none, .pointer none, .pointer none, .slice none 0 0, .slice none 0 0], []⟩ 8 (by kernel_rfl) (by kernel_rfl) (by kernel_rfl) (by kernel_rfl)) ?_
  intro W base args ds gs before hval0 hW hcnd _
  have hval : ∀ (j : Nat) t v, Try.f3.params[j]? = some t → args[j]? = some v → Value.okWide Try.prog W .any base t v := hval0
  have hW' := hW
  obtain ⟨p, q, hA0, hV, rfl, hfz, hnd⟩ := hW
  have hA : DataW.TrodAll enc Try.prog W 0 (fun _ => true) true Try.f3.params.toList args.toList ds p := hA0
  rw [Try.params3] at hA hval
  obtain ⟨v0, vs0, d0, ds0, p0, q0, hargs, rfl, rfl, h0, r0⟩ := trodAll_cons hA
  obtain ⟨v1, vs1, d1, ds1, p1, q1, rfl, rfl, rfl, h1, r1⟩ := trodAll_cons r0
  obtain ⟨v2, vs2, d2, ds2, p2, q2, rfl, rfl, rfl, h2, r2⟩ := trodAll_cons r1
  obtain ⟨v3, vs3, d3, ds3, p3, q3, rfl, rfl, rfl, h3, r3⟩ := trodAll_cons r2
  obtain ⟨v4, vs4, d4, ds4, p4, q4, rfl, rfl, rfl, h4, r4⟩ := trodAll_cons r3
  obtain ⟨v5, vs5, d5, ds5, p5, q5, rfl, rfl, rfl, h5, r5⟩ := trodAll_cons r4
  obtain ⟨v6, vs6, d6, ds6, p6, q6, rfl, rfl, rfl, h6, r6⟩ := trodAll_cons r5
  obtain ⟨v7, vs7, d7, ds7, p7, q7, rfl, rfl, rfl, h7, r7⟩ := trodAll_cons r6
  obtain ⟨v8, vs8, d8, ds8, p8, q8, rfl, rfl, rfl, h8, r8⟩ := trodAll_cons r7
  obtain ⟨rfl, rfl, rfl⟩ := trodAll_nil r8
  obtain rfl : args = #[v0, v1, v2, v3, v4, v5, v6, v7, v8] := by cases args; simp_all
  obtain ⟨rfl, rfl⟩ := trodVars_none hV
  obtain ⟨a0, n0, c0, rfl⟩ := okWide_slice Try.underlying22 (hval 0 22 v0 rfl rfl)
  obtain ⟨x1, rfl, rfl, rfl, w1⟩ := open_int Try.underlying3 (hval 1 3 v1 rfl rfl) h1
  obtain ⟨x2, rfl, rfl, rfl, w2⟩ := open_int Try.underlying23 (hval 2 23 v2 rfl rfl) h2
  obtain ⟨x3, rfl, rfl, rfl, w3⟩ := open_int Try.underlying5 (hval 3 5 v3 rfl rfl) h3
  obtain ⟨a4, rfl⟩ := okWide_pointer Try.underlying24 (hval 4 24 v4 rfl rfl)
  obtain ⟨a5, rfl⟩ := okWide_pointer Try.underlying25 (hval 5 25 v5 rfl rfl)
  obtain ⟨a6, rfl⟩ := okWide_pointer Try.underlying26 (hval 6 26 v6 rfl rfl)
  obtain ⟨a7, n7, c7, rfl⟩ := okWide_slice Try.underlying27 (hval 7 27 v7 rfl rfl)
  obtain ⟨a8, n8, c8, rfl⟩ := okWide_slice Try.underlying28 (hval 8 28 v8 rfl rfl)
  have lt0 : ∀ x ∈ p0, x.block < W.heap.size := by obtain ⟨m, hm⟩ := h0; exact DataW.trod_lt m _ _ _ hm
  have lt4 : ∀ x ∈ p4, x.block < W.heap.size := by obtain ⟨m, hm⟩ := h4; exact DataW.trod_lt m _ _ _ hm
  have lt5 : ∀ x ∈ p5, x.block < W.heap.size := by obtain ⟨m, hm⟩ := h5; exact DataW.trod_lt m _ _ _ hm
  have lt6 : ∀ x ∈ p6, x.block < W.heap.size := by obtain ⟨m, hm⟩ := h6; exact DataW.trod_lt m _ _ _ hm
  have lt7 : ∀ x ∈ p7, x.block < W.heap.size := by obtain ⟨m, hm⟩ := h7; exact DataW.trod_lt m _ _ _ hm
  have lt8 : ∀ x ∈ p8, x.block < W.heap.size := by obtain ⟨m, hm⟩ := h8; exact DataW.trod_lt m _ _ _ hm
  obtain ⟨ss, hview, hnil⟩ := view_of h0
  have hr := rview_of h5
  have hu := uview_of h6
  clear hA0 hval0
  refine (law_any a0 n0 c0 ss x1 x2 x3 a4 a5 a6 a7 a8 n7 c7 n8 c8 W hview hr hu hnil).mono fun e W' ⟨he, bel⟩ => ?_
  subst he
  exact ⟨_, rfl, _, _, _, [], _, [], hW', trodAll_mk1 (shut_bool Try.underlying4 _),
    trodAll_cons_mk (Below.trod laidOut (by kernel_rfl) (of_decide_eq_true (by kernel_rfl)) h0 bel lt0) (trodAll_cons_mk (shut_int Try.underlying3 w1) (trodAll_cons_mk (shut_int Try.underlying23 w2) (trodAll_cons_mk (shut_int Try.underlying5 w3)
      (trodAll_cons_mk (Below.trod laidOut (by kernel_rfl) (of_decide_eq_true (by kernel_rfl)) h4 bel lt4) (trodAll_cons_mk (Below.trod laidOut (by kernel_rfl) (of_decide_eq_true (by kernel_rfl)) h5 bel lt5) (trodAll_cons_mk (Below.trod laidOut (by kernel_rfl) (of_decide_eq_true (by kernel_rfl)) h6 bel lt6)
        (trodAll_cons_mk (Below.trod laidOut (by kernel_rfl) (of_decide_eq_true (by kernel_rfl)) h7 bel lt7) (trodAll_cons_mk (Below.trod laidOut (by kernel_rfl) (of_decide_eq_true (by kernel_rfl)) h8 bel lt8) trodAll_mk0)))))))),
    rfl, bel.frame _, fun h => by cases h⟩

theorem over : Rows.fnHasASCutAndFilterRow.holds Try.pinned (OpenSpec.ofChange Rows.fnHasASCutAndFilterSpec) :=
  OpenClaim.holds_of_wide 3 Try.f3 rfl rfl rfl rfl rfl rfl rfl ⟨rfl, rfl, rfl, rfl, rfl⟩ rfl rfl rfl rfl rfl (by kernel_rfl) Try.func3 (by kernel_rfl)
    (of_decide_eq_true (by kernel_rfl)) (by unfold Func.isWrapper; first | (rw [if_pos (by decide +kernel)]; kernel_rfl) | (rw [if_neg (by decide +kernel)]; exact ⟨rfl, rfl⟩))
    (fun os started H enc _ => lifted os started H enc)

theorem hasAS_proved : Rows.FnHasASCutAndFilterSaid :=
  over
end Go.Proofs.Qxb6619368a
