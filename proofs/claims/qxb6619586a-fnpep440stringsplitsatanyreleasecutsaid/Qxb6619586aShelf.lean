/-
  The contracts of strings.Join, (*Builder).WriteString and (*Builder).String at this dump: laid by the kit (lay-shelf.mjs, lay-plain.mjs); the laying of WriteString is drawn out of the laying of Join, whose closure holds it.
-/
import Derived.Shelf.Strings.Builder1
import Derived.Shelf.Strings.Builder2
import Derived.Shelf.Strings.OnBuilder
import Derived.Test.Qxb6619586aProg
namespace Go.Proofs.Qxb6619586a
open Go.Shelf
def Try.lays169_ren : Go.Shelf.Ren := ⟨fun | 169 => 10 | n => n, fun | 70 => 29 | 9 => 9 | 0 => 0 | 72 => 32 | 37 => 30 | 127 => 39 | 3 => 3 | 5 => 5 | n => n, fun | n => n⟩
theorem Try.lays169 : Go.Proofs.Lays.n169 Try.prog Try.lays169_ren := {
  mixed := by kernel_rfl
  f169 := Try.func10.trans (congrArg some (by kernel_rfl))
  t0 := Try.underlying0
  a0 := Try.isAgg0
  z0 := Try.sizeOf0
  v0 := Try.zeroValue0
  t3 := Try.underlying3
  a3 := Try.isAgg3
  z3 := Try.sizeOf3
  v3 := Try.zeroValue3
  t9 := Try.underlying9
  a9 := Try.isAgg9
  z9 := Try.sizeOf9
  v9 := Try.zeroValue9
  t37 := Try.underlying30
  a37 := Try.isAgg30
  z37 := Try.sizeOf30
  v37 := Try.zeroValue30
  t70 := Try.underlying29
  a70 := Try.isAgg29
  z70 := Try.sizeOf29
  v70 := Try.zeroValue29
  t72 := Try.underlying32
  a72 := Try.isAgg32
  z72 := Try.sizeOf32
  v72 := Try.zeroValue32
  t127 := Try.underlying39
  a127 := Try.isAgg39
  z127 := Try.sizeOf39
  v127 := Try.zeroValue39 }
theorem Try.Builder_Extra_169 : Builder.Extra Try.prog Try.lays169_ren := {
  sizeBuilder := by kernel_rfl
  liesBuilder := by kernel_rfl
  t5 := Try.underlying5
  a5 := Try.isAgg5
  z5 := Try.sizeOf5
  v5 := Try.zeroValue5
  infoByte := by kernel_rfl
  cellsByte := by kernel_rfl
  sizeByte := by kernel_rfl
  neB5 := by decide }
open Go.RowKit in
theorem Try.Builder_String_any (B b : Nat) (l : List UInt8) (w : World) (h : Lib.IsBuilder 32 5 B b (Lib.byteCells l) w) (hBw : B ≤ w.heap.size) :
    Calls Try.prog 10 #[.pointer (some ⟨b, 0, none⟩)] w fun e w' => e = .returned (.string ⟨l.toArray⟩) ∧ Below B w w' := Any.Builder_String_any Try.lays169 Try.Builder_Extra_169 B b l w h hBw
def Try.lays156_ren : Go.Shelf.Ren := ⟨fun | 156 => 9 | 165 => 12 | 166 => 8 | 169 => 10 | 240 => 11 | 241 => 14 | 276 => 13 | 277 => 15 | n => n, fun | 31 => 22 | 9 => 9 | 3 => 3 | 4 => 4 | 0 => 0 | 20 => 20 | 72 => 32 | 76 => 35 | 70 => 29 | 37 => 30 | 75 => 34 | 127 => 39 | 164 => 40 | 5 => 5 | 80 => 28 | n => n, fun | n => n⟩
theorem Try.lays156 : Go.Proofs.Lays.n156 Try.prog Try.lays156_ren := {
  mixed := by kernel_rfl
  f156 := Try.func9.trans (congrArg some (by kernel_rfl))
  f165 := Try.func12.trans (congrArg some (by kernel_rfl))
  f166 := Try.func8.trans (congrArg some (by kernel_rfl))
  f169 := Try.func10.trans (congrArg some (by kernel_rfl))
  f240 := Try.func11.trans (congrArg some (by kernel_rfl))
  f241 := Try.func14.trans (congrArg some (by kernel_rfl))
  f276 := Try.func13.trans (congrArg some (by kernel_rfl))
  f277 := Try.func15.trans (congrArg some (by kernel_rfl))
  t0 := Try.underlying0
  a0 := Try.isAgg0
  z0 := Try.sizeOf0
  v0 := Try.zeroValue0
  t3 := Try.underlying3
  a3 := Try.isAgg3
  z3 := Try.sizeOf3
  v3 := Try.zeroValue3
  t4 := Try.underlying4
  a4 := Try.isAgg4
  z4 := Try.sizeOf4
  v4 := Try.zeroValue4
  t9 := Try.underlying9
  a9 := Try.isAgg9
  z9 := Try.sizeOf9
  v9 := Try.zeroValue9
  t20 := Try.underlying20
  a20 := Try.isAgg20
  z20 := Try.sizeOf20
  v20 := Try.zeroValue20
  t31 := Try.underlying22
  a31 := Try.isAgg22
  z31 := Try.sizeOf22
  v31 := Try.zeroValue22
  t37 := Try.underlying30
  a37 := Try.isAgg30
  z37 := Try.sizeOf30
  v37 := Try.zeroValue30
  t70 := Try.underlying29
  a70 := Try.isAgg29
  z70 := Try.sizeOf29
  v70 := Try.zeroValue29
  t72 := Try.underlying32
  a72 := Try.isAgg32
  z72 := Try.sizeOf32
  v72 := Try.zeroValue32
  t75 := Try.underlying34
  a75 := Try.isAgg34
  z75 := Try.sizeOf34
  v75 := Try.zeroValue34
  t76 := Try.underlying35
  a76 := Try.isAgg35
  z76 := Try.sizeOf35
  v76 := Try.zeroValue35
  t127 := Try.underlying39
  a127 := Try.isAgg39
  z127 := Try.sizeOf39
  v127 := Try.zeroValue39
  t164 := Try.underlying40
  a164 := Try.isAgg40
  z164 := Try.sizeOf40
  v164 := Try.zeroValue40 }
theorem Try.Builder_Extra_156 : Builder.Extra Try.prog Try.lays156_ren := {
  sizeBuilder := by kernel_rfl
  liesBuilder := by kernel_rfl
  t5 := Try.underlying5
  a5 := Try.isAgg5
  z5 := Try.sizeOf5
  v5 := Try.zeroValue5
  infoByte := by kernel_rfl
  cellsByte := by kernel_rfl
  sizeByte := by kernel_rfl
  neB5 := by decide }
theorem Try.lays166 : Go.Proofs.Lays.n166 Try.prog Try.lays156_ren := {
  mixed := Try.lays156.mixed
  f166 := Try.lays156.f166
  f240 := Try.lays156.f240
  f276 := Try.lays156.f276
  t0 := Try.lays156.t0
  a0 := Try.lays156.a0
  z0 := Try.lays156.z0
  v0 := Try.lays156.v0
  t3 := Try.lays156.t3
  a3 := Try.lays156.a3
  z3 := Try.lays156.z3
  v3 := Try.lays156.v3
  t4 := Try.lays156.t4
  a4 := Try.lays156.a4
  z4 := Try.lays156.z4
  v4 := Try.lays156.v4
  t9 := Try.lays156.t9
  a9 := Try.lays156.a9
  z9 := Try.lays156.z9
  v9 := Try.lays156.v9
  t20 := Try.lays156.t20
  a20 := Try.lays156.a20
  z20 := Try.lays156.z20
  v20 := Try.lays156.v20
  t37 := Try.lays156.t37
  a37 := Try.lays156.a37
  z37 := Try.lays156.z37
  v37 := Try.lays156.v37
  t70 := Try.lays156.t70
  a70 := Try.lays156.a70
  z70 := Try.lays156.z70
  v70 := Try.lays156.v70
  t72 := Try.lays156.t72
  a72 := Try.lays156.a72
  z72 := Try.lays156.z72
  v72 := Try.lays156.v72
  t75 := Try.lays156.t75
  a75 := Try.lays156.a75
  z75 := Try.lays156.z75
  v75 := Try.lays156.v75
  t164 := Try.lays156.t164
  a164 := Try.lays156.a164
  z164 := Try.lays156.z164
  v164 := Try.lays156.v164 }
open Go.RowKit in
theorem Try.Builder_WriteString (B b : Nat) (bs : List Value) (s : ByteArray) (w : World) (h : Lib.IsBuilder 32 5 B b bs w) (hlen : bs.length + s.size ≤ 140737488355328) (hBw : B ≤ w.heap.size) :
    Calls Try.prog 8 #[.pointer (some ⟨b, 0, none⟩), .string s] w fun e w' => e = .returned (.tuple #[.int .i64 s.size, .nilIface]) ∧ (Lib.BuilderAt 32 5 B b (.pointer (some ⟨b, 0, none⟩)) (bs ++ Lib.strCells s) w' ∧ Below B w w') := Any.Builder_WriteString Try.lays166 Try.Builder_Extra_156 B b bs s w h hlen hBw
open Go.RowKit in
theorem Try.strings_Join_none (a : Option Addr) (c : Nat) (sep : ByteArray) (w : World) :
    Calls Try.prog 9 #[.slice a 0 c, .string sep] w fun e w' => e = .returned (.string ⟨#[]⟩) ∧ w' = w := Any.strings_Join_none Try.lays156 Try.Builder_Extra_156 a c sep w
open Go.RowKit in
theorem Try.strings_Join (bk o c : Nat) (xs : List ByteArray) (sep : ByteArray) (w : World) (hcells : ∀ (j : Nat) x, xs[j]? = some x → w.cell? ⟨bk, o + j, none⟩ = some (.string x)) (hbk : bk < w.heap.size) (hN : xs.length ≤ 140737488355328) (hcap : xs.length ≤ c)
    (hlen : (Lib.join (xs.map (·.data.toList)) sep.data.toList).length ≤ 140737488355328) :
    Calls Try.prog 9 #[.slice (some ⟨bk, o, none⟩) xs.length c, .string sep] w fun e w' => e = .returned (.string ⟨(Lib.join (xs.map (·.data.toList)) sep.data.toList).toArray⟩) ∧ Below w.heap.size w w' := Any.strings_Join Try.lays156 Try.Builder_Extra_156 bk o c xs sep w hcells hbk hN hcap hlen
end Go.Proofs.Qxb6619586a
