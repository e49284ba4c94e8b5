/- strings.Builder: the library's contracts on copyCheck, WriteByte, WriteString and String at this dump, laid by hand (the laying command falls at the types that only a refused arm names). -/
import Derived.Shelf.Strings.Builder1
import Derived.Shelf.Strings.BuilderF
import Derived.Shelf.Strings.BuilderK
import Derived.Test.YtjpcdbopioblaaaProg
namespace Go.Proofs
open Go.Shelf
def Try.bld_ren : Go.Shelf.Ren := ⟨fun | 166 => 52 | 167 => 57 | 169 => 8 | 240 => 53 | 276 => 54 | n => n, fun | 0 => 0 | 3 => 3 | 4 => 4 | 5 => 5 | 9 => 9 | 20 => 20 | 37 => 25 | 70 => 24 | 72 => 27 | 75 => 40 | 80 => 30 | 127 => 37 | 164 => 82 | n => n, fun | n => n⟩
theorem Try.bld240 : Go.Proofs.Lays.n240 Try.prog Try.bld_ren := {
  mixed := by kernel_rfl
  f240 := Try.func53.trans (congrArg some (by kernel_rfl))
  f276 := Try.func54.trans (congrArg some (by kernel_rfl))
  t0 := Try.underlying0
  a0 := Try.isAgg0
  z0 := Try.sizeOf0
  v0 := Try.zeroValue0
  t4 := Try.underlying4
  a4 := Try.isAgg4
  z4 := Try.sizeOf4
  v4 := Try.zeroValue4
  t9 := Try.underlying9
  a9 := Try.isAgg9
  z9 := Try.sizeOf9
  v9 := Try.zeroValue9
  t20 := Try.underlying20
  a20 := Try.isAgg20
  z20 := Try.sizeOf20
  v20 := Try.zeroValue20
  t70 := Try.underlying24
  a70 := Try.isAgg24
  z70 := Try.sizeOf24
  v70 := Try.zeroValue24
  t72 := Try.underlying27
  a72 := Try.isAgg27
  z72 := Try.sizeOf27
  v72 := Try.zeroValue27
  t164 := Try.underlying82
  a164 := Try.isAgg82
  z164 := Try.sizeOf82
  v164 := Try.zeroValue82 }
theorem Try.bld166 : Go.Proofs.Lays.n166 Try.prog Try.bld_ren := {
  mixed := by kernel_rfl
  f166 := Try.func52.trans (congrArg some (by kernel_rfl))
  f240 := Try.func53.trans (congrArg some (by kernel_rfl))
  f276 := Try.func54.trans (congrArg some (by kernel_rfl))
  t0 := Try.underlying0
  a0 := Try.isAgg0
  z0 := Try.sizeOf0
  v0 := Try.zeroValue0
  t3 := Try.underlying3
  a3 := Try.isAgg3
  z3 := Try.sizeOf3
  v3 := Try.zeroValue3
  t4 := Try.underlying4
  a4 := Try.isAgg4
  z4 := Try.sizeOf4
  v4 := Try.zeroValue4
  t9 := Try.underlying9
  a9 := Try.isAgg9
  z9 := Try.sizeOf9
  v9 := Try.zeroValue9
  t20 := Try.underlying20
  a20 := Try.isAgg20
  z20 := Try.sizeOf20
  v20 := Try.zeroValue20
  t37 := Try.underlying25
  a37 := Try.isAgg25
  z37 := Try.sizeOf25
  v37 := Try.zeroValue25
  t70 := Try.underlying24
  a70 := Try.isAgg24
  z70 := Try.sizeOf24
  v70 := Try.zeroValue24
  t72 := Try.underlying27
  a72 := Try.isAgg27
  z72 := Try.sizeOf27
  v72 := Try.zeroValue27
  t75 := Try.underlying40
  a75 := Try.isAgg40
  z75 := Try.sizeOf40
  v75 := Try.zeroValue40
  t164 := Try.underlying82
  a164 := Try.isAgg82
  z164 := Try.sizeOf82
  v164 := Try.zeroValue82 }
theorem Try.bld169 : Go.Proofs.Lays.n169 Try.prog Try.bld_ren := {
  mixed := by kernel_rfl
  f169 := Try.func8.trans (congrArg some (by kernel_rfl))
  t0 := Try.underlying0
  a0 := Try.isAgg0
  z0 := Try.sizeOf0
  v0 := Try.zeroValue0
  t3 := Try.underlying3
  a3 := Try.isAgg3
  z3 := Try.sizeOf3
  v3 := Try.zeroValue3
  t9 := Try.underlying9
  a9 := Try.isAgg9
  z9 := Try.sizeOf9
  v9 := Try.zeroValue9
  t37 := Try.underlying25
  a37 := Try.isAgg25
  z37 := Try.sizeOf25
  v37 := Try.zeroValue25
  t70 := Try.underlying24
  a70 := Try.isAgg24
  z70 := Try.sizeOf24
  v70 := Try.zeroValue24
  t72 := Try.underlying27
  a72 := Try.isAgg27
  z72 := Try.sizeOf27
  v72 := Try.zeroValue27
  t127 := Try.underlying37
  a127 := Try.isAgg37
  z127 := Try.sizeOf37
  v127 := Try.zeroValue37 }
theorem Try.bld_Extra : Builder.Extra Try.prog Try.bld_ren := {
  sizeBuilder := by kernel_rfl
  liesBuilder := by kernel_rfl
  t5 := Try.underlying5
  a5 := Try.isAgg5
  z5 := Try.sizeOf5
  v5 := Try.zeroValue5
  infoByte := by kernel_rfl
  cellsByte := by kernel_rfl
  sizeByte := by kernel_rfl
  neB5 := by decide }
open Go.RowKit in
open Go.RowKit in
theorem Try.bld_WriteString (B b : Nat) (bs : List Value) (s : ByteArray) (w : World) (h : Lib.IsBuilder 27 5 B b bs w) (hlen : bs.length + s.size ≤ 140737488355328) (hBw : B ≤ w.heap.size) :
    Calls Try.prog 52 #[.pointer (some ⟨b, 0, none⟩), .string s] w fun e w' => e = .returned (.tuple #[.int .i64 s.size, .nilIface]) ∧ (Lib.BuilderAt 27 5 B b (.pointer (some ⟨b, 0, none⟩)) (bs ++ Lib.strCells s) w' ∧ Below B w w') := Any.Builder_WriteString Try.bld166 Try.bld_Extra B b bs s w h hlen hBw
open Go.RowKit in
theorem Try.bld_String (B b : Nat) (l : List UInt8) (w : World) (h : Lib.IsBuilder 27 5 B b (Lib.byteCells l) w) (hBw : B ≤ w.heap.size) :
    Calls Try.prog 8 #[.pointer (some ⟨b, 0, none⟩)] w fun e w' => e = .returned (.string ⟨l.toArray⟩) ∧ Below B w w' := Any.Builder_String_any Try.bld169 Try.bld_Extra B b l w h hBw
open Go.RowKit in
open Go.RowKit in
theorem Try.bld_WriteString_k (B b : Nat) (bs : List Value) (s : ByteArray) (w : World) (h : Lib.IsBuilderF 27 5 B b bs w) (hlen : bs.length + s.size ≤ 140737488355328) (hBw : B ≤ w.heap.size) :
    Calls Try.prog 52 #[.pointer (some ⟨b, 0, none⟩), .string s] w fun e w' => e = .returned (.tuple #[.int .i64 s.size, .nilIface]) ∧ (Lib.BuilderAtF 27 5 B b (.pointer (some ⟨b, 0, none⟩)) (bs ++ Lib.strCells s) w' ∧ Below B w w' ∧ Lib.OthersKept 5 (some b) w w') := Any.Builder_WriteString_k Try.bld166 Try.bld_Extra B b bs s w h hlen hBw
open Go.RowKit in
theorem Try.bld_String_k (B b : Nat) (l : List UInt8) (w : World) (h : Lib.IsBuilderF 27 5 B b (Lib.byteCells l) w) (hBw : B ≤ w.heap.size) :
    Calls Try.prog 8 #[.pointer (some ⟨b, 0, none⟩)] w fun e w' => e = .returned (.string ⟨l.toArray⟩) ∧ (Lib.IsBuilderF 27 5 B b (Lib.byteCells l) w' ∧ Below B w w' ∧ Lib.OthersKept 5 (some b) w w') := Any.Builder_String_any_k Try.bld169 Try.bld_Extra B b l w h hBw
end Go.Proofs
