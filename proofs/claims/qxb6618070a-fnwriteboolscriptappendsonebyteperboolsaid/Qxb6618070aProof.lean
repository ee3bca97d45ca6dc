/-
  The statement: the walk at every input, and the row.
-/
import Derived.Test.Qxb6618070aLaw
import Derived.ProofKit
import Derived.OpenShut
import Derived.ShutString
import Derived.ChangeOld
import Derived.Deep.Grids
namespace Go.Proofs.Qxb6618070a
open Go.ChangeShapes Go.WideShapes Go.ChangeAt Go.RowKit Go.Deep

theorem own : ownKnob Try.prog.godebug = none := by kernel_rfl
theorem laidOut : laidOutB Try.prog = true := by kernel_rfl

set_option maxHeartbeats 1000000 in
set_option maxRecDepth 100000 in
theorem walk (a0 : Option Addr) (l0 c0 : Nat) (zs : List Int) (a1 : Option Addr) (l1 c1 : Nat) (bs : List Bool) (k : Int) (w : World)
    (h0 : Src w (Value.int .u8) 0 a0 l0 c0 zs) (h1 : Src w Value.bool false a1 l1 c1 bs) (m0 : l0 ≤ maxLen) (m1 : l1 ≤ maxLen) :
    Calls Try.prog 3 #[.slice a0 l0 c0, .slice a1 l1 c1, .int .i64 k] w fun e w' => e = .returned (.bool true) ∧ Below w.heap.size w w' := by
  by_cases hsum : l0 + l1 ≤ 1048576
  · by_cases hb : l0 ≤ 524288 ∧ l1 ≤ 524288
    · by_cases hk : 0 ≤ k ∧ k ≤ l1
      · obtain ⟨n, rfl⟩ := Int.eq_ofNat_of_zero_le hk.1
        exact law_main a0 l0 c0 zs a1 l1 c1 bs n w h0 h1 hb.1 hb.2 (by omega)
      · obtain ⟨hb0, hb1⟩ := hb
        have hk' : k < 0 ∨ (l1 : Int) < k := by omega
        clear hk h0 h1
        go_enter Try.func3, Try.ntmps3
        go_wp2_with fail
        refine (bound_yes _ _ _ _ _ _ _ _ hsum).mono ?_
        rintro e w' ⟨rfl, hw⟩
        obtain rfl := hw.symm
        clear hw
        go_wp2
        all_goals (go_ret; exact ⟨rfl, Below.refl _ _⟩)
    · clear h0 h1
      have hb' : 524288 < l0 ∨ 524288 < l1 := by omega
      clear hb
      go_enter Try.func3, Try.ntmps3
      go_wp2_with fail
      refine (bound_yes _ _ _ _ _ _ _ _ hsum).mono ?_
      rintro e w' ⟨rfl, hw⟩
      obtain rfl := hw.symm
      clear hw
      go_wp2
      all_goals (go_ret; exact ⟨rfl, Below.refl _ _⟩)
  · clear h0 h1
    go_enter Try.func3, Try.ntmps3
    go_wp2_with fail
    refine (bound_no _ _ _ _ _ _ _ _ m0 m1 (by omega)).mono ?_
    rintro e w' ⟨rfl, hw⟩
    obtain rfl := hw.symm
    clear hw
    go_wp2
    go_ret
    exact ⟨rfl, Below.refl _ _⟩

set_option maxRecDepth 100000 in
theorem lifted (os : Os) (started : os.Started) (H : Type) (enc : TypeId × Value → H) :
    ReturnsInHanded {} Try.checked os 3 .any (Rows.fnWriteBoolScriptAppendsOneBytePerBoolSpec.pre6 enc Try.prog Try.f3 Rows.fnWriteBoolScriptAppendsOneBytePerBoolRow.domain false) (Rows.fnWriteBoolScriptAppendsOneBytePerBoolSpec.post enc Try.prog Try.f3 false true false false) := by
  refine returnsInHanded_of_change (C := Try.checked) own started (by kernel_rfl) Try.func3
    (ChangeSpec.witness6 (enc := enc) (C := Try.checked) false ⟨#[], #[.slice none 0 0, .slice none 0 0, .int .i64 0], []⟩ 8 (by kernel_rfl) (by kernel_rfl) (by kernel_rfl) (by kernel_rfl)) ?_
  intro W base args ds gs before hval0 hW hcnd _
  have hval : ∀ (j : Nat) t v, Try.f3.params[j]? = some t → args[j]? = some v → Value.okWide Try.prog W .any base t v := hval0
  have hW' := hW
  obtain ⟨p, q, hA0, hV, rfl, hfz, hnd⟩ := hW
  have hA : DataW.TrodAll enc Try.prog W 0 (fun _ => true) true Try.f3.params.toList args.toList ds p := hA0
  rw [Try.params3] at hA hval
  obtain ⟨v0, vs0, d0, ds0, p0, q0, hargs, rfl, rfl, h0, r0⟩ := trodAll_cons hA
  obtain ⟨v1, vs1, d1, ds1, p1, q1, rfl, rfl, rfl, h1, r1⟩ := trodAll_cons r0
  obtain ⟨v2, vs2, d2, ds2, p2, q2, rfl, rfl, rfl, h2, r2⟩ := trodAll_cons r1
  obtain ⟨rfl, rfl, rfl⟩ := trodAll_nil r2
  obtain rfl : args = #[v0, v1, v2] := by cases args; simp_all
  obtain ⟨rfl, rfl⟩ := trodVars_none hV
  obtain ⟨a0, len0, cap0, rfl⟩ := okWide_slice Try.underlying22 (hval 0 22 v0 rfl rfl)
  have k0 := h0
  have lt0 : ∀ x ∈ p0, x.block < W.heap.size := by obtain ⟨m, hm⟩ := k0; exact DataW.trod_lt m _ _ _ hm
  obtain ⟨z0, m0, w0⟩ : ∃ zs, len0 ≤ maxLen ∧ Src W (Value.int .u8) 0 a0 len0 cap0 zs := by
    obtain ⟨fuel, hf⟩ := h0
    rcases open_ints Try.underlying22 Try.underlying5 (by kernel_rfl) hf with ⟨hcs, _⟩ | ⟨x, l, c, zs, hcs, _, hl, hm, hz, _, hcell, hwz⟩
    · simp [Value.cells] at hcs
      obtain ⟨rfl, rfl, rfl⟩ := hcs
      exact ⟨[], Nat.zero_le _, rfl, .inl ⟨rfl, rfl, rfl⟩⟩
    · simp [Value.cells] at hcs
      obtain ⟨rfl, rfl, rfl⟩ := hcs
      simp only [if_true] at hz
      refine ⟨zs.take len0, Nat.le_trans hl hm, by simp; omega, .inr ⟨_, rfl, ?_, fun i hi => ?_⟩⟩
      · by_cases h : len0 = 0
        · exact .inl h
        · refine .inr ?_
          have := World.block_lt_of_cell? W _ (hcell 0 (by omega))
          simpa [Addr.add] using this
      · rw [hcell i (by omega)]
        simp [List.getD, hi]
  obtain ⟨a1, len1, cap1, rfl⟩ := okWide_slice Try.underlying23 (hval 1 23 v1 rfl rfl)
  have k1 := h1
  have lt1 : ∀ x ∈ p1, x.block < W.heap.size := by obtain ⟨m, hm⟩ := k1; exact DataW.trod_lt m _ _ _ hm
  obtain ⟨z1, m1, w1⟩ : ∃ zs, len1 ≤ maxLen ∧ Src W Value.bool false a1 len1 cap1 zs := by
    obtain ⟨fuel, hf⟩ := h1
    rcases open_bools Try.underlying23 Try.underlying4 (by kernel_rfl) hf with ⟨hcs, _⟩ | ⟨x, l, c, B, hcs, _, hl, hm, _, hcell⟩
    · simp [Value.cells] at hcs
      obtain ⟨rfl, rfl, rfl⟩ := hcs
      exact ⟨[], Nat.zero_le _, rfl, .inl ⟨rfl, rfl, rfl⟩⟩
    · simp [Value.cells] at hcs
      obtain ⟨rfl, rfl, rfl⟩ := hcs
      refine ⟨(List.range len1).map B, Nat.le_trans hl hm, by simp, .inr ⟨_, rfl, ?_, fun i hi => ?_⟩⟩
      · by_cases h : len1 = 0
        · exact .inl h
        · refine .inr ?_
          have := World.block_lt_of_cell? W _ (hcell 0 (by omega))
          simpa [Addr.add] using this
      · rw [hcell i (by omega)]
        simp [List.getD, hi]
  obtain ⟨a2, rfl, rfl, rfl, w2⟩ := open_int Try.underlying3 (hval 2 3 v2 rfl rfl) h2
  clear hA0 hval0
  refine (walk a0 len0 cap0 z0 a1 len1 cap1 z1 a2 W w0 w1 m0 m1).mono fun e W' ⟨he, bel⟩ => ?_
  subst he
  exact ⟨_, rfl, _, _, _, [], _, [], hW', trodAll_mk1 (shut_bool Try.underlying4 _), (trodAll_cons_mk (Below.trod laidOut (by kernel_rfl) (of_decide_eq_true (by kernel_rfl)) k0 bel lt0) (trodAll_cons_mk (Below.trod laidOut (by kernel_rfl) (of_decide_eq_true (by kernel_rfl)) k1 bel lt1) (trodAll_cons_mk (shut_int Try.underlying3 w2) trodAll_mk0))), rfl, bel.frame _, fun h => by cases h⟩

theorem over : Rows.fnWriteBoolScriptAppendsOneBytePerBoolRow.holds Try.pinned (OpenSpec.ofChange Rows.fnWriteBoolScriptAppendsOneBytePerBoolSpec) :=
  OpenClaim.holds_of_wide 3 Try.f3 rfl rfl rfl rfl rfl rfl rfl ⟨rfl, rfl, rfl, rfl, rfl⟩ rfl rfl rfl rfl rfl (by kernel_rfl) Try.func3 (by kernel_rfl)
    (of_decide_eq_true (by kernel_rfl)) (by unfold Func.isWrapper; first | (rw [if_pos (by decide +kernel)]; kernel_rfl) | (rw [if_neg (by decide +kernel)]; exact ⟨rfl, rfl⟩))
    (fun os started H enc _ => lifted os started H enc)

theorem writeBool_proved : Rows.FnWriteBoolScriptAppendsOneBytePerBoolSaid :=
  over
end Go.Proofs.Qxb6618070a
