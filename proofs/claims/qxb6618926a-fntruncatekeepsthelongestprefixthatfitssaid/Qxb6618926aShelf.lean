/-
  The library contracts that the two laws go through, laid at this seat's program: strings.Builder (Len, String, WriteRune) and utf8.RuneLen. Each laying is a table of numbers and one theorem; each contract is one application of the library's own theorem. (Written by the kit's tools; n168 laid by hand along their pattern: the tool told 'not laid' because the types 9 and 20 are named by no body here.)
-/
import Derived.Shelf.Small.Utf8
import Derived.Shelf.Strings.BuilderF
import Derived.Shelf.Strings.BuilderK
import Derived.Shelf.Strings.BuilderRune
import Derived.Test.Qxb6618926aProg
namespace Go.Proofs.Qxb6618926a
open Go.Shelf
def lays170Ren : Go.Shelf.Ren := ⟨fun | 170 => 14 | n => n, fun | 70 => 37 | 3 => 3 | 0 => 0 | 72 => 39 | 37 => 31 | 5 => 5 | n => n, fun | n => n⟩
theorem lays170 : Go.Proofs.Lays.n170 Try.prog lays170Ren := {
  mixed := by kernel_rfl
  f170 := Try.func14.trans (congrArg some (by kernel_rfl))
  t0 := Try.underlying0
  a0 := Try.isAgg0
  z0 := Try.sizeOf0
  v0 := Try.zeroValue0
  t3 := Try.underlying3
  a3 := Try.isAgg3
  z3 := Try.sizeOf3
  v3 := Try.zeroValue3
  t37 := Try.underlying31
  a37 := Try.isAgg31
  z37 := Try.sizeOf31
  v37 := Try.zeroValue31
  t70 := Try.underlying37
  a70 := Try.isAgg37
  z70 := Try.sizeOf37
  v70 := Try.zeroValue37
  t72 := Try.underlying39
  a72 := Try.isAgg39
  z72 := Try.sizeOf39
  v72 := Try.zeroValue39 }
def lays169Ren : Go.Shelf.Ren := ⟨fun | 169 => 16 | n => n, fun | 70 => 37 | 9 => 9 | 0 => 0 | 72 => 39 | 37 => 31 | 127 => 46 | 3 => 3 | 5 => 5 | n => n, fun | n => n⟩
theorem lays169 : Go.Proofs.Lays.n169 Try.prog lays169Ren := {
  mixed := by kernel_rfl
  f169 := Try.func16.trans (congrArg some (by kernel_rfl))
  t0 := Try.underlying0
  a0 := Try.isAgg0
  z0 := Try.sizeOf0
  v0 := Try.zeroValue0
  t3 := Try.underlying3
  a3 := Try.isAgg3
  z3 := Try.sizeOf3
  v3 := Try.zeroValue3
  t9 := Try.underlying9
  a9 := Try.isAgg9
  z9 := Try.sizeOf9
  v9 := Try.zeroValue9
  t37 := Try.underlying31
  a37 := Try.isAgg31
  z37 := Try.sizeOf31
  v37 := Try.zeroValue31
  t70 := Try.underlying37
  a70 := Try.isAgg37
  z70 := Try.sizeOf37
  v70 := Try.zeroValue37
  t72 := Try.underlying39
  a72 := Try.isAgg39
  z72 := Try.sizeOf39
  v72 := Try.zeroValue39
  t127 := Try.underlying46
  a127 := Try.isAgg46
  z127 := Try.sizeOf46
  v127 := Try.zeroValue46 }
theorem extra169 : Builder.Extra Try.prog lays169Ren := {
  sizeBuilder := by kernel_rfl
  liesBuilder := by kernel_rfl
  t5 := Try.underlying5
  a5 := Try.isAgg5
  z5 := Try.sizeOf5
  v5 := Try.zeroValue5
  infoByte := by kernel_rfl
  cellsByte := by kernel_rfl
  sizeByte := by kernel_rfl
  neB5 := by decide }
def lays118Ren : Go.Shelf.Ren := ⟨fun | 118 => 15 | n => n, fun | 21 => 21 | 3 => 3 | 4 => 4 | n => n, fun | n => n⟩
theorem lays118 : Go.Proofs.Lays.n118 Try.prog lays118Ren := {
  mixed := by kernel_rfl
  f118 := Try.func15.trans (congrArg some (by kernel_rfl))
  t3 := Try.underlying3
  a3 := Try.isAgg3
  z3 := Try.sizeOf3
  v3 := Try.zeroValue3
  t4 := Try.underlying4
  a4 := Try.isAgg4
  z4 := Try.sizeOf4
  v4 := Try.zeroValue4
  t21 := Try.underlying21
  a21 := Try.isAgg21
  z21 := Try.sizeOf21
  v21 := Try.zeroValue21 }
def lays168Ren : Go.Shelf.Ren := ⟨fun | 168 => 17 | 240 => 19 | 242 => 20 | 276 => 21 | 278 => 22 | n => n, fun | 70 => 37 | 21 => 21 | 3 => 3 | 75 => 43 | 0 => 0 | 72 => 39 | 37 => 31 | 4 => 4 | 164 => 48 | 51 => 50 | 5 => 5 | 46 => 32 | 80 => 41 | 9 => 9 | 20 => 20 | n => n, fun | n => n⟩
theorem lays168 : Go.Proofs.Lays.n168 Try.prog lays168Ren := {
  mixed := by kernel_rfl
  f168 := Try.func17.trans (congrArg some (by kernel_rfl))
  f240 := Try.func19.trans (congrArg some (by kernel_rfl))
  f242 := Try.func20.trans (congrArg some (by kernel_rfl))
  f276 := Try.func21.trans (congrArg some (by kernel_rfl))
  f278 := Try.func22.trans (congrArg some (by kernel_rfl))
  t0 := Try.underlying0
  a0 := Try.isAgg0
  z0 := Try.sizeOf0
  v0 := Try.zeroValue0
  t3 := Try.underlying3
  a3 := Try.isAgg3
  z3 := Try.sizeOf3
  v3 := Try.zeroValue3
  t4 := Try.underlying4
  a4 := Try.isAgg4
  z4 := Try.sizeOf4
  v4 := Try.zeroValue4
  t5 := Try.underlying5
  a5 := Try.isAgg5
  z5 := Try.sizeOf5
  v5 := Try.zeroValue5
  t9 := Try.underlying9
  a9 := Try.isAgg9
  z9 := Try.sizeOf9
  v9 := Try.zeroValue9
  t20 := Try.underlying20
  a20 := Try.isAgg20
  z20 := Try.sizeOf20
  v20 := Try.zeroValue20
  t21 := Try.underlying21
  a21 := Try.isAgg21
  z21 := Try.sizeOf21
  v21 := Try.zeroValue21
  t37 := Try.underlying31
  a37 := Try.isAgg31
  z37 := Try.sizeOf31
  v37 := Try.zeroValue31
  t46 := Try.underlying32
  a46 := Try.isAgg32
  z46 := Try.sizeOf32
  v46 := Try.zeroValue32
  t51 := Try.underlying50
  a51 := Try.isAgg50
  z51 := Try.sizeOf50
  v51 := Try.zeroValue50
  t70 := Try.underlying37
  a70 := Try.isAgg37
  z70 := Try.sizeOf37
  v70 := Try.zeroValue37
  t72 := Try.underlying39
  a72 := Try.isAgg39
  z72 := Try.sizeOf39
  v72 := Try.zeroValue39
  t75 := Try.underlying43
  a75 := Try.isAgg43
  z75 := Try.sizeOf43
  v75 := Try.zeroValue43
  t164 := Try.underlying48
  a164 := Try.isAgg48
  z164 := Try.sizeOf48
  v164 := Try.zeroValue48 }
theorem extra168 : Builder.Extra Try.prog lays168Ren := {
  sizeBuilder := by kernel_rfl
  liesBuilder := by kernel_rfl
  t5 := Try.underlying5
  a5 := Try.isAgg5
  z5 := Try.sizeOf5
  v5 := Try.zeroValue5
  infoByte := by kernel_rfl
  cellsByte := by kernel_rfl
  sizeByte := by kernel_rfl
  neB5 := by decide }
open Go.RowKit

/-- utf8.RuneLen. -/
theorem runeLen_any (r : Int) (w : World) :
    Calls Try.prog 15 #[.int .i32 r] w fun e w' => e = .returned (.int .i64 (Lib.runeLen r)) ∧ w' = w := Any.utf8_RuneLen lays118 r w

/-- (*strings.Builder).Len. -/
theorem builder_len (B b : Nat) (bs : List Value) (w : World) (h : Lib.IsBuilderF 39 5 B b bs w) :
    Calls Try.prog 14 #[.pointer (some ⟨b, 0, none⟩)] w fun e w' => e = .returned (.int .i64 bs.length) ∧ w' = w := Any.Builder_Len_f lays170 B b bs w h

/-- (*strings.Builder).String. -/
theorem builder_string (B b : Nat) (l : List UInt8) (w : World) (h : Lib.IsBuilderF 39 5 B b (Lib.byteCells l) w) (hBw : B ≤ w.heap.size) :
    Calls Try.prog 16 #[.pointer (some ⟨b, 0, none⟩)] w fun e w' => e = .returned (.string ⟨l.toArray⟩) ∧ (Lib.IsBuilderF 39 5 B b (Lib.byteCells l) w' ∧ Below B w w' ∧ Lib.OthersKept 5 (some b) w w') := Any.Builder_String_any_k lays169 extra169 B b l w h hBw

/-- (*strings.Builder).WriteRune. -/
theorem builder_writeRune (B b : Nat) (bs : List Value) (r : Int) (hr0 : -2147483648 ≤ r) (hr1 : r ≤ 2147483647) (w : World) (h : Lib.IsBuilderF 39 5 B b bs w) (hlen : bs.length + 4 ≤ 140737488355328) (hBw : B ≤ w.heap.size) :
    Calls Try.prog 17 #[.pointer (some ⟨b, 0, none⟩), .int .i32 r] w fun e w' => e = .returned (.tuple #[.int .i64 (Lib.runeCells r).length, .nilIface]) ∧ (Lib.BuilderAtF 39 5 B b (.pointer (some ⟨b, 0, none⟩)) (bs ++ Lib.runeCells r) w' ∧ Below B w w' ∧ Lib.OthersKept 5 (some b) w w') := Any.Builder_WriteRune_k lays168 extra168 B b bs r hr0 hr1 w h hlen hBw

end Go.Proofs.Qxb6618926a
