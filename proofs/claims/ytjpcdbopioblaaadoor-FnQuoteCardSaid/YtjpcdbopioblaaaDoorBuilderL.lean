/- strings.Builder: the library's contracts on copyCheck, WriteByte, WriteString and String at this dump, laid by hand (the laying command falls at the types that only a refused arm names). -/
import Derived.Shelf.Strings.Builder1
import Derived.Shelf.Strings.BuilderF
import Derived.Shelf.Strings.BuilderK
import Derived.Test.YtjpcdbopioblaaaDoorProg
namespace Go.Proofs
open Go.Shelf
def Tryd.bld_ren : Go.Shelf.Ren := ⟨fun | 166 => 179 | 167 => 178 | 169 => 41 | 240 => 180 | 276 => 181 | n => n, fun | 0 => 0 | 3 => 3 | 4 => 4 | 5 => 5 | 9 => 9 | 20 => 20 | 37 => 73 | 70 => 72 | 72 => 75 | 75 => 117 | 80 => 77 | 127 => 108 | 164 => 213 | n => n, fun | n => n⟩
theorem Tryd.bld240 : Go.Proofs.Lays.n240 Tryd.prog Tryd.bld_ren := {
  mixed := by kernel_rfl
  f240 := Tryd.func180.trans (congrArg some (by kernel_rfl))
  f276 := Tryd.func181.trans (congrArg some (by kernel_rfl))
  t0 := Tryd.underlying0
  a0 := Tryd.isAgg0
  z0 := Tryd.sizeOf0
  v0 := Tryd.zeroValue0
  t4 := Tryd.underlying4
  a4 := Tryd.isAgg4
  z4 := Tryd.sizeOf4
  v4 := Tryd.zeroValue4
  t9 := Tryd.underlying9
  a9 := Tryd.isAgg9
  z9 := Tryd.sizeOf9
  v9 := Tryd.zeroValue9
  t20 := Tryd.underlying20
  a20 := Tryd.isAgg20
  z20 := Tryd.sizeOf20
  v20 := Tryd.zeroValue20
  t70 := Tryd.underlying72
  a70 := Tryd.isAgg72
  z70 := Tryd.sizeOf72
  v70 := Tryd.zeroValue72
  t72 := Tryd.underlying75
  a72 := Tryd.isAgg75
  z72 := Tryd.sizeOf75
  v72 := Tryd.zeroValue75
  t164 := Tryd.underlying213
  a164 := Tryd.isAgg213
  z164 := Tryd.sizeOf213
  v164 := Tryd.zeroValue213 }
theorem Tryd.bld167 : Go.Proofs.Lays.n167 Tryd.prog Tryd.bld_ren := {
  mixed := by kernel_rfl
  f167 := Tryd.func178.trans (congrArg some (by kernel_rfl))
  f240 := Tryd.func180.trans (congrArg some (by kernel_rfl))
  f276 := Tryd.func181.trans (congrArg some (by kernel_rfl))
  t0 := Tryd.underlying0
  a0 := Tryd.isAgg0
  z0 := Tryd.sizeOf0
  v0 := Tryd.zeroValue0
  t4 := Tryd.underlying4
  a4 := Tryd.isAgg4
  z4 := Tryd.sizeOf4
  v4 := Tryd.zeroValue4
  t5 := Tryd.underlying5
  a5 := Tryd.isAgg5
  z5 := Tryd.sizeOf5
  v5 := Tryd.zeroValue5
  t9 := Tryd.underlying9
  a9 := Tryd.isAgg9
  z9 := Tryd.sizeOf9
  v9 := Tryd.zeroValue9
  t20 := Tryd.underlying20
  a20 := Tryd.isAgg20
  z20 := Tryd.sizeOf20
  v20 := Tryd.zeroValue20
  t37 := Tryd.underlying73
  a37 := Tryd.isAgg73
  z37 := Tryd.sizeOf73
  v37 := Tryd.zeroValue73
  t70 := Tryd.underlying72
  a70 := Tryd.isAgg72
  z70 := Tryd.sizeOf72
  v70 := Tryd.zeroValue72
  t72 := Tryd.underlying75
  a72 := Tryd.isAgg75
  z72 := Tryd.sizeOf75
  v72 := Tryd.zeroValue75
  t75 := Tryd.underlying117
  a75 := Tryd.isAgg117
  z75 := Tryd.sizeOf117
  v75 := Tryd.zeroValue117
  t164 := Tryd.underlying213
  a164 := Tryd.isAgg213
  z164 := Tryd.sizeOf213
  v164 := Tryd.zeroValue213 }
theorem Tryd.bld166 : Go.Proofs.Lays.n166 Tryd.prog Tryd.bld_ren := {
  mixed := by kernel_rfl
  f166 := Tryd.func179.trans (congrArg some (by kernel_rfl))
  f240 := Tryd.func180.trans (congrArg some (by kernel_rfl))
  f276 := Tryd.func181.trans (congrArg some (by kernel_rfl))
  t0 := Tryd.underlying0
  a0 := Tryd.isAgg0
  z0 := Tryd.sizeOf0
  v0 := Tryd.zeroValue0
  t3 := Tryd.underlying3
  a3 := Tryd.isAgg3
  z3 := Tryd.sizeOf3
  v3 := Tryd.zeroValue3
  t4 := Tryd.underlying4
  a4 := Tryd.isAgg4
  z4 := Tryd.sizeOf4
  v4 := Tryd.zeroValue4
  t9 := Tryd.underlying9
  a9 := Tryd.isAgg9
  z9 := Tryd.sizeOf9
  v9 := Tryd.zeroValue9
  t20 := Tryd.underlying20
  a20 := Tryd.isAgg20
  z20 := Tryd.sizeOf20
  v20 := Tryd.zeroValue20
  t37 := Tryd.underlying73
  a37 := Tryd.isAgg73
  z37 := Tryd.sizeOf73
  v37 := Tryd.zeroValue73
  t70 := Tryd.underlying72
  a70 := Tryd.isAgg72
  z70 := Tryd.sizeOf72
  v70 := Tryd.zeroValue72
  t72 := Tryd.underlying75
  a72 := Tryd.isAgg75
  z72 := Tryd.sizeOf75
  v72 := Tryd.zeroValue75
  t75 := Tryd.underlying117
  a75 := Tryd.isAgg117
  z75 := Tryd.sizeOf117
  v75 := Tryd.zeroValue117
  t164 := Tryd.underlying213
  a164 := Tryd.isAgg213
  z164 := Tryd.sizeOf213
  v164 := Tryd.zeroValue213 }
theorem Tryd.bld169 : Go.Proofs.Lays.n169 Tryd.prog Tryd.bld_ren := {
  mixed := by kernel_rfl
  f169 := Tryd.func41.trans (congrArg some (by kernel_rfl))
  t0 := Tryd.underlying0
  a0 := Tryd.isAgg0
  z0 := Tryd.sizeOf0
  v0 := Tryd.zeroValue0
  t3 := Tryd.underlying3
  a3 := Tryd.isAgg3
  z3 := Tryd.sizeOf3
  v3 := Tryd.zeroValue3
  t9 := Tryd.underlying9
  a9 := Tryd.isAgg9
  z9 := Tryd.sizeOf9
  v9 := Tryd.zeroValue9
  t37 := Tryd.underlying73
  a37 := Tryd.isAgg73
  z37 := Tryd.sizeOf73
  v37 := Tryd.zeroValue73
  t70 := Tryd.underlying72
  a70 := Tryd.isAgg72
  z70 := Tryd.sizeOf72
  v70 := Tryd.zeroValue72
  t72 := Tryd.underlying75
  a72 := Tryd.isAgg75
  z72 := Tryd.sizeOf75
  v72 := Tryd.zeroValue75
  t127 := Tryd.underlying108
  a127 := Tryd.isAgg108
  z127 := Tryd.sizeOf108
  v127 := Tryd.zeroValue108 }
theorem Tryd.bld_Extra : Builder.Extra Tryd.prog Tryd.bld_ren := {
  sizeBuilder := by kernel_rfl
  liesBuilder := by kernel_rfl
  t5 := Tryd.underlying5
  a5 := Tryd.isAgg5
  z5 := Tryd.sizeOf5
  v5 := Tryd.zeroValue5
  infoByte := by kernel_rfl
  cellsByte := by kernel_rfl
  sizeByte := by kernel_rfl
  neB5 := by decide }
open Go.RowKit in
theorem Tryd.bld_WriteByte (B b : Nat) (bs : List Value) (c : Int) (w : World) (h : Lib.IsBuilder 75 5 B b bs w) (hlen : bs.length + 1 ≤ 140737488355328) (hBw : B ≤ w.heap.size) :
    Calls Tryd.prog 178 #[.pointer (some ⟨b, 0, none⟩), .int .u8 c] w fun e w' => e = .returned .nilIface ∧ (Lib.BuilderAt 75 5 B b (.pointer (some ⟨b, 0, none⟩)) (bs ++ [.int .u8 c]) w' ∧ Below B w w') := Any.Builder_WriteByte Tryd.bld167 Tryd.bld_Extra B b bs c w h hlen hBw
open Go.RowKit in
theorem Tryd.bld_WriteString (B b : Nat) (bs : List Value) (s : ByteArray) (w : World) (h : Lib.IsBuilder 75 5 B b bs w) (hlen : bs.length + s.size ≤ 140737488355328) (hBw : B ≤ w.heap.size) :
    Calls Tryd.prog 179 #[.pointer (some ⟨b, 0, none⟩), .string s] w fun e w' => e = .returned (.tuple #[.int .i64 s.size, .nilIface]) ∧ (Lib.BuilderAt 75 5 B b (.pointer (some ⟨b, 0, none⟩)) (bs ++ Lib.strCells s) w' ∧ Below B w w') := Any.Builder_WriteString Tryd.bld166 Tryd.bld_Extra B b bs s w h hlen hBw
open Go.RowKit in
theorem Tryd.bld_String (B b : Nat) (l : List UInt8) (w : World) (h : Lib.IsBuilder 75 5 B b (Lib.byteCells l) w) (hBw : B ≤ w.heap.size) :
    Calls Tryd.prog 41 #[.pointer (some ⟨b, 0, none⟩)] w fun e w' => e = .returned (.string ⟨l.toArray⟩) ∧ Below B w w' := Any.Builder_String_any Tryd.bld169 Tryd.bld_Extra B b l w h hBw
open Go.RowKit in
theorem Tryd.bld_WriteByte_k (B b : Nat) (bs : List Value) (c : Int) (w : World) (h : Lib.IsBuilderF 75 5 B b bs w) (hlen : bs.length + 1 ≤ 140737488355328) (hBw : B ≤ w.heap.size) :
    Calls Tryd.prog 178 #[.pointer (some ⟨b, 0, none⟩), .int .u8 c] w fun e w' => e = .returned .nilIface ∧ (Lib.BuilderAtF 75 5 B b (.pointer (some ⟨b, 0, none⟩)) (bs ++ [.int .u8 c]) w' ∧ Below B w w' ∧ Lib.OthersKept 5 (some b) w w') := Any.Builder_WriteByte_k Tryd.bld167 Tryd.bld_Extra B b bs c w h hlen hBw
open Go.RowKit in
theorem Tryd.bld_WriteString_k (B b : Nat) (bs : List Value) (s : ByteArray) (w : World) (h : Lib.IsBuilderF 75 5 B b bs w) (hlen : bs.length + s.size ≤ 140737488355328) (hBw : B ≤ w.heap.size) :
    Calls Tryd.prog 179 #[.pointer (some ⟨b, 0, none⟩), .string s] w fun e w' => e = .returned (.tuple #[.int .i64 s.size, .nilIface]) ∧ (Lib.BuilderAtF 75 5 B b (.pointer (some ⟨b, 0, none⟩)) (bs ++ Lib.strCells s) w' ∧ Below B w w' ∧ Lib.OthersKept 5 (some b) w w') := Any.Builder_WriteString_k Tryd.bld166 Tryd.bld_Extra B b bs s w h hlen hBw
open Go.RowKit in
theorem Tryd.bld_String_k (B b : Nat) (l : List UInt8) (w : World) (h : Lib.IsBuilderF 75 5 B b (Lib.byteCells l) w) (hBw : B ≤ w.heap.size) :
    Calls Tryd.prog 41 #[.pointer (some ⟨b, 0, none⟩)] w fun e w' => e = .returned (.string ⟨l.toArray⟩) ∧ (Lib.IsBuilderF 75 5 B b (Lib.byteCells l) w' ∧ Below B w w' ∧ Lib.OthersKept 5 (some b) w w') := Any.Builder_String_any_k Tryd.bld169 Tryd.bld_Extra B b l w h hBw
end Go.Proofs
