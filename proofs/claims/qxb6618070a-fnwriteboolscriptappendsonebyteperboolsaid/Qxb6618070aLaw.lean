/-
  The law's own walk (function 3), out of the callees' contracts.
-/
import Derived.Test.Qxb6618070aClone
import Derived.Deep.QuietTactic
import Derived.BigQuiet
namespace Go.Proofs.Qxb6618070a
open Go.RowKit

/-- What the encoder holds when k of the bools have been written behind the bytes zs. -/
def out (zs : List Int) (bs : List Bool) (k : Nat) : List Value := zs.map (Value.int .u8) ++ (bs.take k).map (fun b => Value.int .u8 (bit b))

theorem out_zero (zs : List Int) (bs : List Bool) : out zs bs 0 = zs.map (Value.int .u8) := by simp [out]
theorem out_map (zs : List Int) (bs : List Bool) (k : Nat) : out zs bs k = (zs ++ (bs.take k).map bit).map (Value.int .u8) := by simp [out, Function.comp_def]
theorem out_low (zs : List Int) (bs : List Bool) (k j : Nat) (h : j < zs.length) : (out zs bs k)[j]? = some (.int .u8 (zs.getD j 0)) := by
  unfold out
  rw [List.getElem?_append_left (by simpa using h)]
  simp [List.getD, h]
theorem out_high (zs : List Int) (bs : List Bool) (k j : Nat) (hk : j < k) (h : j < bs.length) : (out zs bs k)[zs.length + j]? = some (.int .u8 (bit (bs.getD j false))) := by
  unfold out
  rw [List.getElem?_append_right (by simp)]
  simp [List.getD, hk, h]
theorem out_at (zs : List Int) (bs : List Bool) (k j : Nat) (h : j < zs.length + min k bs.length) : ∃ x, (out zs bs k)[j]? = some (.int .u8 x) := by
  by_cases hj : j < zs.length
  · exact ⟨_, out_low zs bs k j hj⟩
  · obtain ⟨i, rfl⟩ : ∃ i, j = zs.length + i := ⟨j - zs.length, by omega⟩
    exact ⟨_, out_high zs bs k i (by omega) (by omega)⟩
theorem out_succ (zs : List Int) (bs : List Bool) (k : Nat) (h : k < bs.length) : out zs bs k ++ [.int .u8 (bit (bs.getD k false))] = out zs bs (k + 1) := by
  unfold out
  rw [List.take_succ_eq_append_getElem h]
  simp only [List.getD, List.getElem?_eq_getElem h, Option.getD_some, List.map_append, List.map_cons, List.map_nil, List.append_assoc]

theorem src_kept {α : Type} {w w' : World} {f : α → Value} {d : α} {a : Option Addr} {len cap : Nat} {zs : List α} (h : Src w f d a len cap zs) (hb : Below w.heap.size w w') : Src w' f d a len cap zs := by
  refine ⟨h.1, ?_⟩
  rcases h.2 with h2 | ⟨x, rfl, hx, hc⟩
  · exact .inl h2
  · refine .inr ⟨x, rfl, ?_, fun i hi => ?_⟩
    · rcases hx with hx | hx
      · exact .inl hx
      · exact .inr (Nat.lt_of_lt_of_le hx hb.size)
    · have hlt : (x.add i).block < w.heap.size := World.block_lt_of_cell? w _ (hc i hi)
      rw [hb.cell hlt]; exact hc i hi

/-- A new encoder over a slice that the call owns. -/
theorem enc_new (base : Nat) (a : Option Addr) (n c : Nat) (xs : List Value) (w : World) (hown : w.ownsRow base 5 1 (.slice a n c) n xs) (hb : base ≤ w.heap.size) :
    Calls Try.prog 7 #[.slice a n c] w fun e w' => ∃ be, e = .returned (.pointer (some ⟨be, 0, none⟩)) ∧ Enc w' base be n xs ∧ Below base w w' := by
  refine (new_any _ w ⟨a, n, c, rfl⟩).mono ?_
  rintro e w' ⟨rfl, rfl⟩
  exact ⟨_, rfl, ⟨hb, a, c, heap_alloc_new w _, hown.alloc _⟩, (Below.refl _ _).alloc hb _⟩

/-- What the encoder holds, handed out. -/
theorem enc_bytes (base be n : Nat) (xs : List Value) (w : World) (hE : Enc w base be n xs) :
    Calls Try.prog 9 #[.pointer (some ⟨be, 0, none⟩)] w fun e w' => ∃ a c, e = .returned (.slice a n c) ∧ w = w' ∧ w.ownsRow base 5 1 (.slice a n c) n xs := by
  obtain ⟨_, a, c, hblk, hown⟩ := hE
  refine (bytes_any be _ w (cell_of_one hblk)).mono ?_
  rintro e w' ⟨rfl, rfl⟩
  exact ⟨a, c, rfl, rfl, hown⟩

set_option maxHeartbeats 1000000 in
set_option maxRecDepth 100000 in
theorem law_main (a0 : Option Addr) (l0 c0 : Nat) (zs : List Int) (a1 : Option Addr) (l1 c1 : Nat) (bs : List Bool) (k : Nat) (w : World)
    (h0 : Src w (Value.int .u8) 0 a0 l0 c0 zs) (h1 : Src w Value.bool false a1 l1 c1 bs) (hl0 : l0 ≤ 524288) (hl1 : l1 ≤ 524288) (hk : k ≤ l1) :
    Calls Try.prog 3 #[.slice a0 l0 c0, .slice a1 l1 c1, .int .i64 k] w fun e w' => e = .returned (.bool true) ∧ Below w.heap.size w w' := by
  go_enter Try.func3, Try.ntmps3
  go_wp2_with fail
  refine (bound_yes _ _ _ _ _ _ _ _ (by omega)).mono ?_
  rintro e w' ⟨rfl, hw⟩
  obtain rfl := hw.symm
  clear hw
  go_wp2_with fail
  refine (clone_any _ _ _ zs _ h0 (by omega)).mono ?_
  rintro e w1 ⟨p, cp, rfl, hP, hB1⟩
  go_wp2_with fail
  refine (cloneB_any _ _ _ bs _ (src_kept h1 hB1) (by omega)).mono ?_
  rintro e w2 ⟨q, cq, rfl, hQ, hB2⟩
  have hB12 : Below w.heap.size w w2 := hB1.trans (hB2.mono hB1.size)
  have hP2 := own_kept hP (Nat.le_refl _) hB2
  have hzl : zs.length = l0 := h0.1
  have hbl : bs.length = l1 := h1.1
  clear h0 h1 hP hB1 hB2
  go_wp2_with fail
  refine (clone_any _ _ _ zs _ (own_src 0 hP2) (by omega)).mono ?_
  rintro e w3 ⟨a3, c3, rfl, hO3, hB3⟩
  go_wp2_with fail
  refine (enc_new w2.heap.size _ _ _ _ _ hO3 hB3.size).mono ?_
  rintro e w4 ⟨e1, rfl, hE4, hB4⟩
  have hB24 : Below w2.heap.size w2 w4 := hB3.trans hB4
  clear hO3 hB3 hB4
  go_wp2_with fail
  go_loopw [8] (fun i wr => ∃ j : Nat, j ≤ l1 ∧ i = .int .i64 j ∧ Enc wr w2.heap.size e1 (l0 + j) (out zs bs j) ∧ Below w2.heap.size w2 wr) (fun i _ => l1 - (intOf i).toNat)
  case atStart => exact ⟨0, Nat.zero_le _, rfl, by rw [out_zero]; exact hE4, hB24⟩
  case round =>
    clear hE4 hB24
    obtain ⟨j, hj, rfl, hE, hB⟩ := hrel
    by_cases hlt : j < l1
    · have hQr := own_kept hQ (Nat.le_refl _) hB
      obtain ⟨g, rfl, hg1, hg2, hgc⟩ := own_at hQr (by omega)
      have hcell : wr.cell? ⟨g, j, none⟩ = some (.bool (bs.getD j false)) := by rw [hgc j hlt]; simp [List.getD, show j < bs.length by omega]
      clear hgc hQr
      have Hs := out_succ zs bs j (by omega)
      have HS := And.intro Hs trivial
      generalize bs.getD j false = bj at *
      clear Hs
      go_wp2_with fail
      refine (write_any _ _ _ _ _ _ hE (by omega)).mono ?_
      rintro e wn ⟨rfl, hEn, hBn⟩
      rw [HS.1] at hEn
      have hBn' := hB.trans hBn
      clear hE hB hBn HS hcell
      go_wp2_with fail
      go_roundw
      case rel => exact ⟨j + 1, by omega, by go_num, hEn, hBn'⟩
      case measure => simp [intOf]; omega
    · obtain rfl : l1 = j := by omega
      obtain ⟨WA, rfl⟩ : ∃ x, x = wr := ⟨_, rfl⟩
      clear hlt hj
      have hPA := own_kept hP2 (Nat.le_refl _) hB
      have hQA := own_kept hQ (Nat.le_refl _) hB
      have hBA : Below w.heap.size w WA := hB12.trans (hB.mono hB12.size)
      clear hP2 hQ hB hB12
      go_wp2_with fail
      refine (enc_bytes _ _ _ _ _ hE).mono ?_
      rintro e w5 ⟨ag, cg, rfl, hw5, hG⟩
      obtain rfl := hw5
      clear hE
      generalize hzz : w2.heap.size = b2 at *
      clear hzz
      go_wp2_with fail
      refine (clone_any _ _ _ zs _ (own_src 0 hPA) (by omega)).mono ?_
      rintro e w6 ⟨a6, c6, rfl, hO6, hB6⟩
      go_wp2_with fail
      refine (enc_new WA.heap.size _ _ _ _ _ hO6 hB6.size).mono ?_
      rintro e w7 ⟨e2, rfl, hE7, hB7⟩
      have hB67 : Below WA.heap.size WA w7 := hB6.trans hB7
      clear hO6 hB6 hB7
      go_wp2_with fail
      go_loopw [11] (fun i wx => ∃ j : Nat, j ≤ k ∧ i = .int .i64 j ∧ Enc wx WA.heap.size e2 (l0 + j) (out zs bs j) ∧ Below WA.heap.size WA wx) (fun i _ => k - (intOf i).toNat)
      case atStart => exact ⟨0, Nat.zero_le _, rfl, by rw [out_zero]; exact hE7, hB67⟩
      case round =>
        obtain ⟨WB, rfl⟩ : ∃ x, x = wr := ⟨_, rfl⟩
        clear hE7 hB67
        obtain ⟨j, hj, rfl, hE, hB⟩ := hrel
        by_cases hlt : j < k
        · have hQr := own_kept hQA (Nat.le_refl _) hB
          obtain ⟨g, rfl, hg1, hg2, hgc⟩ := own_at hQr (by omega)
          have hcell : WB.cell? ⟨g, j, none⟩ = some (.bool (bs.getD j false)) := by rw [hgc j (by omega)]; simp [List.getD, show j < bs.length by omega]
          clear hgc hQr
          have Hs := out_succ zs bs j (by omega)
          have HS := And.intro Hs trivial
          generalize bs.getD j false = bj at *
          clear Hs
          go_wp2_with fail
          refine (write_any _ _ _ _ _ _ hE (by omega)).mono ?_
          rintro e wn ⟨rfl, hEn, hBn⟩
          rw [HS.1] at hEn
          have hBn' := hB.trans hBn
          clear hE hB hBn HS hcell
          go_wp2_with fail
          go_roundw
          case rel => exact ⟨j + 1, by omega, by go_num, hEn, hBn'⟩
          case measure => simp [intOf]; omega
        · obtain rfl : k = j := by omega
          clear hlt hj
          have hPB := own_kept hPA (Nat.le_refl _) hB
          have hQB := own_kept hQA (Nat.le_refl _) hB
          have hGB := own_kept hG (Nat.le_refl _) hB
          have hBB : Below w.heap.size w WB := hBA.trans (hB.mono hBA.size)
          clear hPA hQA hG hB hBA
          go_wp2_with fail
          refine (enc_bytes _ _ _ _ _ hE).mono ?_
          rintro e w8 ⟨af, cf, rfl, hw8, hF⟩
          obtain rfl := hw8
          clear hE
          rw [out_map] at hF
          go_wp2_with fail
          refine (clone_any _ _ _ _ _ (own_src 0 hF) (by omega)).mono ?_
          rintro e w9 ⟨a9, c9, rfl, hO9, hB9⟩
          rw [← out_map] at hO9
          clear hF
          go_wp2_with fail
          refine (enc_new WB.heap.size _ _ _ _ _ hO9 hB9.size).mono ?_
          rintro e w10 ⟨e3, rfl, hE10, hB10⟩
          have hBX : Below WB.heap.size WB w10 := hB9.trans hB10
          clear hO9 hB9 hB10
          generalize hzz : WA.heap.size = b3 at *
          clear hzz
          go_wp2_with fail
          go_loopw [13] (fun i wx => ∃ j : Nat, k ≤ j ∧ j ≤ l1 ∧ i = .int .i64 j ∧ Enc wx WB.heap.size e3 (l0 + j) (out zs bs j) ∧ Below WB.heap.size WB wx) (fun i _ => l1 - (intOf i).toNat)
          case atStart => exact ⟨k, Nat.le_refl _, hk, rfl, hE10, hBX⟩
          case round =>
            clear hE10 hBX
            obtain ⟨WC, rfl⟩ : ∃ x, x = wr := ⟨_, rfl⟩
            obtain ⟨j, hjk, hj, rfl, hE, hB⟩ := hrel
            by_cases hlt : j < l1
            · have hQr := own_kept hQB (Nat.le_refl _) hB
              obtain ⟨g, rfl, hg1, hg2, hgc⟩ := own_at hQr (by omega)
              have hcell : WC.cell? ⟨g, j, none⟩ = some (.bool (bs.getD j false)) := by rw [hgc j (by omega)]; simp [List.getD, show j < bs.length by omega]
              clear hgc hQr
              have Hs := out_succ zs bs j (by omega)
              have HS := And.intro Hs trivial
              generalize bs.getD j false = bj at *
              clear Hs
              go_wp2_with fail
              refine (write_any _ _ _ _ _ _ hE (by omega)).mono ?_
              rintro e wn ⟨rfl, hEn, hBn⟩
              rw [HS.1] at hEn
              have hBn' := hB.trans hBn
              clear hE hB hBn HS hcell
              go_wp2_with fail
              go_roundw
              case rel => exact ⟨j + 1, by omega, by omega, by go_num, hEn, hBn'⟩
              case measure => simp [intOf]; omega
            · obtain rfl : l1 = j := by omega
              clear hlt hj hjk
              have hPC := own_kept hPB (Nat.le_refl _) hB
              have hQC := own_kept hQB (Nat.le_refl _) hB
              have hGC := own_kept hGB (Nat.le_refl _) hB
              have hBC : Below w.heap.size w WC := hBB.trans (hB.mono hBB.size)
              clear hPB hQB hGB hB hBB
              go_wp2_with fail
              refine (enc_bytes _ _ _ _ _ hE).mono ?_
              rintro e w11 ⟨at1, ct1, rfl, hw11, hS⟩
              obtain rfl := hw11
              clear hE
              go_wp2_with fail
              go_loopw [15] (fun i wx => ∃ j nq : Nat, j ≤ l0 ∧ i = .int .i64 j ∧ wx = WC.drewN nq) (fun i _ => l0 - (intOf i).toNat)
              case atStart => exact ⟨0, 0, Nat.zero_le _, rfl, rfl⟩
              case round =>
                obtain ⟨j, nq, hj, rfl, rfl⟩ := hrel
                by_cases hlt : j < l0
                · obtain ⟨g, rfl, hg1, hg2, hgc⟩ := own_at hPC (by omega)
                  obtain ⟨g', rfl, hg1', hg2', hgc'⟩ := own_at hGC (by omega)
                  have c1 : WC.cell? ⟨g, j, none⟩ = some (.int .u8 (zs.getD j 0)) := by rw [hgc j (by omega)]; simp [List.getD, show j < zs.length by omega]
                  have c2 : WC.cell? ⟨g', j, none⟩ = some (.int .u8 (zs.getD j 0)) := by rw [hgc' j (by omega)]; exact out_low zs bs l1 j (by omega)
                  clear hgc hgc'
                  generalize zs.getD j 0 = zj at *
                  go_wp2_with fail
                  go_quiet (fail)
                  go_wp2
                  go_roundw
                  case rel => exact ⟨j + 1, _, by omega, by go_num, rfl⟩
                  case measure => simp [intOf]; omega
                · obtain rfl : l0 = j := by omega
                  clear hlt hj
                  go_wp2_with fail
                  go_loopw [16] (fun i wx => ∃ j nq : Nat, j ≤ l1 ∧ i = .int .i64 j ∧ wx = WC.drewN nq) (fun i _ => l1 - (intOf i).toNat)
                  case atStart => exact ⟨0, _, Nat.zero_le _, rfl, rfl⟩
                  case round =>
                    obtain ⟨j, nq, hj, rfl, rfl⟩ := hrel
                    by_cases hlt : j < l1
                    · obtain ⟨g, rfl, hg1, hg2, hgc⟩ := own_at hQC (by omega)
                      obtain ⟨g', rfl, hg1', hg2', hgc'⟩ := own_at hGC (by omega)
                      have c1 : WC.cell? ⟨g, j, none⟩ = some (.bool (bs.getD j false)) := by rw [hgc j (by omega)]; simp [List.getD, show j < bs.length by omega]
                      have c2 : WC.cell? ⟨g', l0 + j, none⟩ = some (.int .u8 (bit (bs.getD j false))) := by rw [hgc' (l0 + j) (by omega)]; have := out_high zs bs l1 j hlt (by omega); rw [hzl] at this; exact this
                      clear hgc hgc'
                      generalize bs.getD j false = bj at *
                      cases bj
                      all_goals
                        simp only [bit] at c2
                        go_wp2
                        go_roundw
                        case rel => exact ⟨j + 1, _, by omega, by go_num, rfl⟩
                        case measure => simp [intOf]; omega
                    · obtain rfl : l1 = j := by omega
                      clear hlt hj
                      go_wp2_with fail
                      go_loopw [18] (fun i wx => ∃ j nq : Nat, j ≤ l0 + l1 ∧ i = .int .i64 j ∧ wx = WC.drewN nq) (fun i _ => l0 + l1 - (intOf i).toNat)
                      case atStart => exact ⟨0, _, Nat.zero_le _, rfl, rfl⟩
                      case round =>
                        obtain ⟨j, nq, hj, rfl, rfl⟩ := hrel
                        by_cases hlt : j < l0 + l1
                        · obtain ⟨g, rfl, hg1, hg2, hgc⟩ := own_at hGC (by omega)
                          obtain ⟨g', rfl, hg1', hg2', hgc'⟩ := own_at hS (by omega)
                          obtain ⟨x, hx⟩ := out_at zs bs l1 j (by omega)
                          have c1 : WC.cell? ⟨g, j, none⟩ = some (.int .u8 x) := by rw [hgc j (by omega)]; exact hx
                          have c2 : WC.cell? ⟨g', j, none⟩ = some (.int .u8 x) := by rw [hgc' j (by omega)]; exact hx
                          clear hgc hgc' hx
                          go_wp2_with fail
                          go_quiet (fail)
                          go_wp2
                          go_roundw
                          case rel => exact ⟨j + 1, _, by omega, by go_num, rfl⟩
                          case measure => simp [intOf]; omega
                        · go_wp2
                          go_ret
                          exact ⟨rfl, hBC.trans ⟨rfl, rfl, rfl, Nat.le_refl _, fun _ _ => rfl⟩⟩

end Go.Proofs.Qxb6618070a
