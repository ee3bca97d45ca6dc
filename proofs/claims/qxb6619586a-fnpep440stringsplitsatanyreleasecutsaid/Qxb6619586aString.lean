/-
  (pep440Version).String (7), ZZPep440String (6).
-/
import Derived.Test.Qxb6619586aSize
import Derived.Test.Qxb6619586aShelf
import Derived.Deep.Cut
namespace Go.Proofs.Qxb6619586a
open Go.RowKit

theorem own_kept {w w' : World} {base : Nat} {e : TypeId} {v : Value} {n : Nat} {xs : List Value} (h : w.ownsRow base e 1 v n xs) (hb : Below w.heap.size w w') : w'.ownsRow base e 1 v n xs := by
  refine ⟨h.1, ?_⟩
  rcases h.2 with h2 | ⟨g, cap, cur, hv, hg, hh, r⟩
  · exact Or.inl h2
  · exact Or.inr ⟨g, cap, cur, hv, hg, by rw [hb.block g (lt_of_block hh)]; exact hh, r⟩

theorem builder_kept {w w' : World} {B b : Nat} {bs : List Value} (h : Lib.IsBuilder 32 5 B b bs w) (hb : Below w.heap.size w w') : Lib.IsBuilder 32 5 B b bs w' := by
  rcases h with ⟨h1, v, h2, h3, h4⟩ | ⟨h1, v, h2, h3, h4⟩
  · exact .inl ⟨h1, v, by rw [hb.block b (lt_of_block h2)]; exact h2, own_kept h3 hb, h4⟩
  · exact .inr ⟨h1, v, by rw [hb.block b (lt_of_block h2)]; exact h2, own_kept h3 hb, h4⟩

/-- The normal form of a list of strings, a dot between two. -/
def dots (xs : List ByteArray) : List UInt8 := Lib.join (xs.map (·.data.toList)) [46]

theorem join_any (a : Option Addr) (n c : Nat) (xs : List ByteArray) (w : World) (hv : SV w a n xs) (hc : n ≤ c) (hn : n ≤ 4096) (hl : (dots xs).length ≤ 1048576) :
    Calls Try.prog 9 #[.slice a n c, .string ⟨#[46]⟩] w fun e w' => e = .returned (.string ⟨(dots xs).toArray⟩) ∧ Below w.heap.size w w' := by
  have hx : xs.length = n := hv.1
  by_cases h0 : n = 0
  · subst h0
    obtain rfl : xs = [] := List.eq_nil_of_length_eq_zero hx
    refine (Try.strings_Join_none a c _ w).mono ?_
    rintro e w' ⟨rfl, rfl⟩
    exact ⟨rfl, Below.refl _ _⟩
  · obtain ⟨b, off, rfl, hb, _⟩ := hv.at 0 (by omega)
    subst hx
    refine Try.strings_Join b off c xs ⟨#[46]⟩ w (fun j x hj => ?_) hb (by omega) hc (by unfold dots at hl; exact Nat.le_trans hl (by omega))
    have hjl : j < xs.length := (List.getElem?_eq_some_iff.1 hj).1
    obtain ⟨b', off', he, _, hcell⟩ := hv.at j hjl
    simp only [Option.some.injEq, Addr.mk.injEq, and_true] at he
    obtain ⟨rfl, rfl⟩ := he
    rw [hcell]
    simp [List.getD, hj]

/-- What String writes, part by part. -/
def opt (t : Bool) (l : List UInt8) : List UInt8 := match t with | true => l | false => []
theorem opt_le (t : Bool) (l : List UInt8) : (opt t l).length ≤ l.length := by cases t <;> simp [opt]
def pEpoch (ep : ByteArray) : List UInt8 := opt (!ep.toList == [48]) (ep.data.toList ++ [33])
def pPre (pk pr : ByteArray) : List UInt8 := opt (!pk.toList.isEmpty) (pk.data.toList ++ pr.data.toList)
def pPost (po : ByteArray) : List UInt8 := opt (!po.toList.isEmpty) ([46, 112, 111, 115, 116] ++ po.data.toList)
def pDev (dv : ByteArray) : List UInt8 := opt (!dv.toList.isEmpty) ([46, 100, 101, 118] ++ dv.data.toList)
def pLocal (a : Option Addr) (ys : List ByteArray) : List UInt8 := opt a.isSome ([43] ++ dots ys)

theorem data_len (s : ByteArray) : s.data.toList.length = s.size := Array.length_toList
theorem pEpoch_le (ep : ByteArray) (h : ep.size ≤ 65536) : (pEpoch ep).length ≤ 65537 := by
  have h1 := opt_le (!ep.toList == [48]) (ep.data.toList ++ [33])
  rw [List.length_append, data_len] at h1
  simp only [List.length_singleton] at h1
  unfold pEpoch
  omega
theorem pPre_le (pk pr : ByteArray) (h : pk.size ≤ 65536) (h' : pr.size ≤ 65536) : (pPre pk pr).length ≤ 131072 := by
  have h1 := opt_le (!pk.toList.isEmpty) (pk.data.toList ++ pr.data.toList)
  rw [List.length_append, data_len, data_len] at h1
  unfold pPre
  omega
theorem pPost_le (po : ByteArray) (h : po.size ≤ 65536) : (pPost po).length ≤ 65541 := by
  have h1 := opt_le (!po.toList.isEmpty) ([46, 112, 111, 115, 116] ++ po.data.toList)
  rw [List.length_append, data_len] at h1
  simp only [List.length_cons, List.length_nil] at h1
  unfold pPost
  omega
theorem pDev_le (dv : ByteArray) (h : dv.size ≤ 65536) : (pDev dv).length ≤ 65540 := by
  have h1 := opt_le (!dv.toList.isEmpty) ([46, 100, 101, 118] ++ dv.data.toList)
  rw [List.length_append, data_len] at h1
  simp only [List.length_cons, List.length_nil] at h1
  unfold pDev
  omega
theorem size_of_list (l : List UInt8) : (⟨l.toArray⟩ : ByteArray).size = l.length := by simp [ByteArray.size]

/-- The state between two statements: the builder and what it holds; all below it as it was. -/
def St (W0 : World) (B b : Nat) (l : List UInt8) (w : World) : Prop := Lib.IsBuilder 32 5 B b (Lib.byteCells l) w ∧ Below B W0 w ∧ B ≤ w.heap.size

theorem write_st (W0 : World) (B b : Nat) (l : List UInt8) (s : ByteArray) (w : World) (h : St W0 B b l w) (hl : l.length + s.size ≤ 140737488355328) :
    Calls Try.prog 8 #[.pointer (some ⟨b, 0, none⟩), .string s] w fun e w' => e = .returned (.tuple #[.int .i64 s.size, .nilIface]) ∧ St W0 B b (l ++ s.data.toList) w' := by
  obtain ⟨h1, h2, h3⟩ := h
  refine (Try.Builder_WriteString B b (Lib.byteCells l) s w h1 (by rw [Lib.byteCells_length]; exact hl) h3).mono ?_
  rintro e w' ⟨rfl, k1, k2⟩
  refine ⟨rfl, .inr ?_, h2.trans k2, Nat.le_trans h3 k2.size⟩
  have e : Lib.byteCells (l ++ s.data.toList) = Lib.byteCells l ++ Lib.strCells s := by rw [Lib.strCells_eq]; simp [Lib.byteCells]
  rw [e]; exact k1

theorem St.kept {W0 : World} {B b : Nat} {l : List UInt8} {w w' : World} (h : St W0 B b l w) (hb : Below w.heap.size w w') : St W0 B b l w' :=
  ⟨builder_kept h.1 hb, h.2.1.trans (hb.mono h.2.2), Nat.le_trans h.2.2 hb.size⟩

/-- The cells of a block. -/
def Box (g : Nat) (vs : List Value) (w : World) : Prop := ∀ j v, vs[j]? = some v → w.cell? ⟨g, j, none⟩ = some v
theorem Box.kept {g B : Nat} {vs : List Value} {w w' : World} (h : Box g vs w) (hb : Below B w w') (hg : g < B) : Box g vs w' := fun j v hj => (hb.cell (p := ⟨g, j, none⟩) hg).trans (h j v hj)

set_option maxHeartbeats 4000000 in
set_option maxRecDepth 100000 in
theorem string_any (ep pk pr po dv : ByteArray) (a a' : Option Addr) (n c n' c' : Nat) (xs ys : List ByteArray) (w : World) (hv : SV w a n xs) (hv' : SV w a' n' ys) (hc : n ≤ c) (hc' : n' ≤ c') (hn : n ≤ 4096) (hn' : n' ≤ 4096)
    (hx : (dots xs).length ≤ 1048576) (hy : (dots ys).length ≤ 1048576) (h1 : ep.size ≤ 65536) (h2 : pk.size ≤ 65536) (h3 : pr.size ≤ 65536) (h4 : po.size ≤ 65536) (h5 : dv.size ≤ 65536) :
    Calls Try.prog 7 #[.agg #[.string ep, .slice a n c, .string pk, .string pr, .string po, .string dv, .slice a' n' c']] w
      fun e w' => e = .returned (.string ⟨(pEpoch ep ++ dots xs ++ pPre pk pr ++ pPost po ++ pDev dv ++ pLocal a' ys).toArray⟩) ∧ Below w.heap.size w w' := by
  go_enter Try.func7, Try.ntmps7
  go_upto_if 6 with fail
  have S0 : St ((w.alloc (.cells #[.string ep, .slice a n c, .string pk, .string pr, .string po, .string dv, .slice a' n' c'] 27)).alloc (.cells #[.pointer none, .slice none 0 0] 32)) (w.heap.size + 1) (w.heap.size + 1) [] ((w.alloc (.cells #[.string ep, .slice a n c, .string pk, .string pr, .string po, .string dv, .slice a' n' c'] 27)).alloc (.cells #[.pointer none, .slice none 0 0] 32)) :=
    ⟨.inl ⟨Nat.le_refl _, .slice none 0 0, by rw [show w.heap.size + 1 = (w.alloc (.cells #[.string ep, .slice a n c, .string pk, .string pr, .string po, .string dv, .slice a' n' c'] 27)).heap.size by simp]; exact heap_alloc_new _ _, World.ownsRow_nil _ _ _ _, by simp [Value.ownBlock]⟩, Below.refl _ _, by simp⟩
  have hBox : Box w.heap.size [.string ep, .slice a n c, .string pk, .string pr, .string po, .string dv, .slice a' n' c'] ((w.alloc (.cells #[.string ep, .slice a n c, .string pk, .string pr, .string po, .string dv, .slice a' n' c'] 27)).alloc (.cells #[.pointer none, .slice none 0 0] 32)) := by
    intro j v hj
    rw [World.cell?_alloc_past _ _ _ (by simp), cell_of_row _ _ _ _ _ _ (heap_alloc_new w _)]
    simpa using hj
  have hB0 : Below w.heap.size w ((w.alloc (.cells #[.string ep, .slice a n c, .string pk, .string pr, .string po, .string dv, .slice a' n' c'] 27)).alloc (.cells #[.pointer none, .slice none 0 0] 32)) := ((Below.refl _ _).alloc (Nat.le_refl _) _).alloc (by simp) _
  generalize (w.alloc (.cells #[.string ep, .slice a n c, .string pk, .string pr, .string po, .string dv, .slice a' n' c'] 27)).alloc (.cells #[.pointer none, .slice none 0 0] 32) = W0 at *
  go_cut [] from 4 (fun wx => St W0 (w.heap.size + 1) (w.heap.size + 1) (pEpoch ep) wx)
  case first =>
    have c0 := hBox 0 _ rfl
    have R : Hid (pEpoch ep = opt (!ep.toList == [48]) (ep.data.toList ++ [33])) := rfl
    generalize (!ep.toList == [48]) = tb at *
    cases tb
    · go_wp2_with fail
      go_meet
      case rel => rw [R.out]; exact S0
    · go_wp2_with fail
      refine (write_st W0 _ _ _ _ _ S0 (by rw [ByteArray.size_append]; show 0 + (ep.size + 1) ≤ _; omega)).mono ?_
      rintro e w1 ⟨rfl, S1⟩
      go_wp2_with fail
      go_meet
      case rel => rw [R.out]; simpa [opt] using S1
  case rest =>
    have hB1 : Below w.heap.size w wc := hB0.trans (hcut.2.1.mono (by omega))
    have hx1 := hBox.kept hcut.2.1 (by omega)
    have c1 := hx1 1 _ rfl
    have l1 : (pEpoch ep).length ≤ 65537 := pEpoch_le ep h1
    generalize hgL1 : pEpoch ep = L1 at *
    have HL1 : Hid _ := hgL1
    clear hgL1
    clear S0
    go_wp2_with fail
    refine (join_any a n c xs wc (hv.kept hB1) hc hn hx).mono ?_
    rintro e w2 ⟨rfl, hB2⟩
    have S2 := hcut.kept hB2
    go_wp2_with fail
    refine (write_st W0 _ _ _ _ _ S2 (by rw [size_of_list]; omega)).mono ?_
    rintro e w3 ⟨rfl, S3⟩
    clear hcut hB1 hB2 S2 c1
    have hx3 := hBox.kept S3.2.1 (by omega)
    have c2 := hx3 2 _ rfl
    have c3 := hx3 3 _ rfl
    have l2 : (L1 ++ dots xs).length ≤ 1114113 := by rw [List.length_append]; omega
    go_upto_if 17 with fail
    go_cut [] from 4 (fun wx => St W0 (w.heap.size + 1) (w.heap.size + 1) (L1 ++ dots xs ++ pPre pk pr) wx)
    case first =>
      have R : Hid (pPre pk pr = opt (!pk.toList.isEmpty) (pk.data.toList ++ pr.data.toList)) := rfl
      generalize L1 ++ dots xs = L2 at *
      generalize (!pk.toList.isEmpty) = tb at *
      cases tb
      · go_wp2_with fail
        go_meet
        case rel => rw [R.out]; simpa [opt] using S3
      · go_wp2_with fail
        refine (write_st W0 _ _ _ _ _ S3 (by rw [ByteArray.size_append]; omega)).mono ?_
        rintro e w4 ⟨rfl, S4⟩
        go_wp2_with fail
        go_meet
        case rel => rw [R.out]; simpa [opt] using S4
    case rest =>
      clear S3 hx3 c2 c3
      have l3 : (L1 ++ dots xs ++ pPre pk pr).length ≤ 1245185 := by have := pPre_le pk pr h2 h3; rw [List.length_append]; omega
      generalize hgL3 : L1 ++ dots xs ++ pPre pk pr = L3 at *
      have HL3 : Hid _ := hgL3
      clear hgL3
      have S3 := hcut
      clear hcut
      have hx3 := hBox.kept S3.2.1 (by omega)
      have c4 := hx3 4 _ rfl
      go_upto_if 26 with fail
      go_cut [] from 4 (fun wx => St W0 (w.heap.size + 1) (w.heap.size + 1) (L3 ++ pPost po) wx)
      case first =>
        have R : Hid (pPost po = opt (!po.toList.isEmpty) ([46, 112, 111, 115, 116] ++ po.data.toList)) := rfl
        generalize (!po.toList.isEmpty) = tb at *
        cases tb
        · go_wp2_with fail
          go_meet
          case rel => rw [R.out]; simpa [opt] using S3
        · go_wp2_with fail
          refine (write_st W0 _ _ _ _ _ S3 (by rw [ByteArray.size_append]; show _ + (5 + _) ≤ _; omega)).mono ?_
          rintro e w4 ⟨rfl, S4⟩
          go_wp2_with fail
          go_meet
          case rel => rw [R.out]; simpa [opt] using S4
      case rest =>
        clear S3 hx3 c4
        have l4 : (L3 ++ pPost po).length ≤ 1310726 := by have := pPost_le po h4; rw [List.length_append]; omega
        generalize hgL4 : L3 ++ pPost po = L4 at *
        have HL4 : Hid _ := hgL4
        clear hgL4
        have S3 := hcut
        clear hcut
        have hx3 := hBox.kept S3.2.1 (by omega)
        have c5 := hx3 5 _ rfl
        go_upto_if 33 with fail
        go_cut [] from 4 (fun wx => St W0 (w.heap.size + 1) (w.heap.size + 1) (L4 ++ pDev dv) wx)
        case first =>
          have R : Hid (pDev dv = opt (!dv.toList.isEmpty) ([46, 100, 101, 118] ++ dv.data.toList)) := rfl
          generalize (!dv.toList.isEmpty) = tb at *
          cases tb
          · go_wp2_with fail
            go_meet
            case rel => rw [R.out]; simpa [opt] using S3
          · go_wp2_with fail
            refine (write_st W0 _ _ _ _ _ S3 (by rw [ByteArray.size_append]; show _ + (4 + _) ≤ _; omega)).mono ?_
            rintro e w4 ⟨rfl, S4⟩
            go_wp2_with fail
            go_meet
            case rel => rw [R.out]; simpa [opt] using S4
        case rest =>
          clear S3 hx3 c5
          have l5 : (L4 ++ pDev dv).length ≤ 1376266 := by have := pDev_le dv h5; rw [List.length_append]; omega
          generalize hgL5 : L4 ++ pDev dv = L5 at *
          have HL5 : Hid _ := hgL5
          clear hgL5
          have S3 := hcut
          clear hcut
          have hx3 := hBox.kept S3.2.1 (by omega)
          have c6 := hx3 6 _ rfl
          have hne := fun wx => run_neq_slice_nil_any (P := Try.prog) wx 22 9 a' n' c' 0 0 Try.underlying22
          go_upto_if 40 with fail
          go_cut [] from 4 (fun wx => St W0 (w.heap.size + 1) (w.heap.size + 1) (L5 ++ pLocal a' ys) wx)
          case first =>
            have R : Hid (pLocal a' ys = opt a'.isSome ([43] ++ dots ys)) := rfl
            clear hne
            generalize a'.isSome = tb at *
            cases tb
            · go_wp2_with fail
              go_meet
              case rel => rw [R.out]; simpa [opt] using S3
            · go_wp2_with fail
              refine (join_any a' n' c' ys wc (hv'.kept (hB0.trans (S3.2.1.mono (by omega)))) hc' hn' hy).mono ?_
              rintro e w4 ⟨rfl, hB4⟩
              have S4 := S3.kept hB4
              go_wp2_with fail
              refine (write_st W0 _ _ _ _ _ S4 (by rw [ByteArray.size_append]; have hsz := size_of_list (dots ys); show _ + (1 + _) ≤ _; omega)).mono ?_
              rintro e w5 ⟨rfl, S5⟩
              go_wp2_with fail
              go_meet
              case rel => rw [R.out]; simpa [opt] using S5
          case rest =>
            clear S3 hx3 c6 hne
            generalize hgL6 : L5 ++ pLocal a' ys = L6 at *
            have HL6 : Hid _ := hgL6
            clear hgL6
            have hBw : Below w.heap.size w wc := hB0.trans (hcut.2.1.mono (by omega))
            go_wp2_with fail
            refine (Try.Builder_String_any (w.heap.size + 1) (w.heap.size + 1) L6 wc hcut.1 hcut.2.2).mono ?_
            rintro e w7 ⟨rfl, hB7⟩
            go_wp2
            go_ret
            exact ⟨by rw [HL1.out, HL3.out, HL4.out, HL5.out, HL6.out]; rfl, hBw.trans (hB7.mono (by omega))⟩

end Go.Proofs.Qxb6619586a
