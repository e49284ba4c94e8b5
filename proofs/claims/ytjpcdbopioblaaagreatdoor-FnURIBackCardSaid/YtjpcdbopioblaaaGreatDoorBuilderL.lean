/- strings.Builder: the library's contracts on copyCheck, WriteByte, WriteString and String at this dump, laid by hand (the laying command falls at the types that only a refused arm names). -/
import Derived.Shelf.Strings.Builder1
import Derived.Shelf.Strings.BuilderF
import Derived.Shelf.Strings.BuilderK
import Derived.Test.YtjpcdbopioblaaaGreatDoorProg
namespace Go.Proofs
open Go.Shelf
def Tryz.bld_ren : Go.Shelf.Ren := ⟨fun | 166 => 296 | 167 => 191 | 169 => 192 | 240 => 226 | 276 => 251 | n => n, fun | 0 => 0 | 3 => 3 | 4 => 4 | 5 => 5 | 9 => 9 | 20 => 20 | 37 => 58 | 70 => 222 | 72 => 224 | 75 => 60 | 80 => 155 | 127 => 257 | 164 => 205 | n => n, fun | n => n⟩
theorem Tryz.bld240 : Go.Proofs.Lays.n240 Tryz.prog Tryz.bld_ren := {
  mixed := by kernel_rfl
  f240 := Tryz.func226.trans (congrArg some (by kernel_rfl))
  f276 := Tryz.func251.trans (congrArg some (by kernel_rfl))
  t0 := Tryz.underlying0
  a0 := Tryz.isAgg0
  z0 := Tryz.sizeOf0
  v0 := Tryz.zeroValue0
  t4 := Tryz.underlying4
  a4 := Tryz.isAgg4
  z4 := Tryz.sizeOf4
  v4 := Tryz.zeroValue4
  t9 := Tryz.underlying9
  a9 := Tryz.isAgg9
  z9 := Tryz.sizeOf9
  v9 := Tryz.zeroValue9
  t20 := Tryz.underlying20
  a20 := Tryz.isAgg20
  z20 := Tryz.sizeOf20
  v20 := Tryz.zeroValue20
  t70 := Tryz.underlying222
  a70 := Tryz.isAgg222
  z70 := Tryz.sizeOf222
  v70 := Tryz.zeroValue222
  t72 := Tryz.underlying224
  a72 := Tryz.isAgg224
  z72 := Tryz.sizeOf224
  v72 := Tryz.zeroValue224
  t164 := Tryz.underlying205
  a164 := Tryz.isAgg205
  z164 := Tryz.sizeOf205
  v164 := Tryz.zeroValue205 }
theorem Tryz.bld167 : Go.Proofs.Lays.n167 Tryz.prog Tryz.bld_ren := {
  mixed := by kernel_rfl
  f167 := Tryz.func191.trans (congrArg some (by kernel_rfl))
  f240 := Tryz.func226.trans (congrArg some (by kernel_rfl))
  f276 := Tryz.func251.trans (congrArg some (by kernel_rfl))
  t0 := Tryz.underlying0
  a0 := Tryz.isAgg0
  z0 := Tryz.sizeOf0
  v0 := Tryz.zeroValue0
  t4 := Tryz.underlying4
  a4 := Tryz.isAgg4
  z4 := Tryz.sizeOf4
  v4 := Tryz.zeroValue4
  t5 := Tryz.underlying5
  a5 := Tryz.isAgg5
  z5 := Tryz.sizeOf5
  v5 := Tryz.zeroValue5
  t9 := Tryz.underlying9
  a9 := Tryz.isAgg9
  z9 := Tryz.sizeOf9
  v9 := Tryz.zeroValue9
  t20 := Tryz.underlying20
  a20 := Tryz.isAgg20
  z20 := Tryz.sizeOf20
  v20 := Tryz.zeroValue20
  t37 := Tryz.underlying58
  a37 := Tryz.isAgg58
  z37 := Tryz.sizeOf58
  v37 := Tryz.zeroValue58
  t70 := Tryz.underlying222
  a70 := Tryz.isAgg222
  z70 := Tryz.sizeOf222
  v70 := Tryz.zeroValue222
  t72 := Tryz.underlying224
  a72 := Tryz.isAgg224
  z72 := Tryz.sizeOf224
  v72 := Tryz.zeroValue224
  t75 := Tryz.underlying60
  a75 := Tryz.isAgg60
  z75 := Tryz.sizeOf60
  v75 := Tryz.zeroValue60
  t164 := Tryz.underlying205
  a164 := Tryz.isAgg205
  z164 := Tryz.sizeOf205
  v164 := Tryz.zeroValue205 }
theorem Tryz.bld166 : Go.Proofs.Lays.n166 Tryz.prog Tryz.bld_ren := {
  mixed := by kernel_rfl
  f166 := Tryz.func296.trans (congrArg some (by kernel_rfl))
  f240 := Tryz.func226.trans (congrArg some (by kernel_rfl))
  f276 := Tryz.func251.trans (congrArg some (by kernel_rfl))
  t0 := Tryz.underlying0
  a0 := Tryz.isAgg0
  z0 := Tryz.sizeOf0
  v0 := Tryz.zeroValue0
  t3 := Tryz.underlying3
  a3 := Tryz.isAgg3
  z3 := Tryz.sizeOf3
  v3 := Tryz.zeroValue3
  t4 := Tryz.underlying4
  a4 := Tryz.isAgg4
  z4 := Tryz.sizeOf4
  v4 := Tryz.zeroValue4
  t9 := Tryz.underlying9
  a9 := Tryz.isAgg9
  z9 := Tryz.sizeOf9
  v9 := Tryz.zeroValue9
  t20 := Tryz.underlying20
  a20 := Tryz.isAgg20
  z20 := Tryz.sizeOf20
  v20 := Tryz.zeroValue20
  t37 := Tryz.underlying58
  a37 := Tryz.isAgg58
  z37 := Tryz.sizeOf58
  v37 := Tryz.zeroValue58
  t70 := Tryz.underlying222
  a70 := Tryz.isAgg222
  z70 := Tryz.sizeOf222
  v70 := Tryz.zeroValue222
  t72 := Tryz.underlying224
  a72 := Tryz.isAgg224
  z72 := Tryz.sizeOf224
  v72 := Tryz.zeroValue224
  t75 := Tryz.underlying60
  a75 := Tryz.isAgg60
  z75 := Tryz.sizeOf60
  v75 := Tryz.zeroValue60
  t164 := Tryz.underlying205
  a164 := Tryz.isAgg205
  z164 := Tryz.sizeOf205
  v164 := Tryz.zeroValue205 }
theorem Tryz.bld169 : Go.Proofs.Lays.n169 Tryz.prog Tryz.bld_ren := {
  mixed := by kernel_rfl
  f169 := Tryz.func192.trans (congrArg some (by kernel_rfl))
  t0 := Tryz.underlying0
  a0 := Tryz.isAgg0
  z0 := Tryz.sizeOf0
  v0 := Tryz.zeroValue0
  t3 := Tryz.underlying3
  a3 := Tryz.isAgg3
  z3 := Tryz.sizeOf3
  v3 := Tryz.zeroValue3
  t9 := Tryz.underlying9
  a9 := Tryz.isAgg9
  z9 := Tryz.sizeOf9
  v9 := Tryz.zeroValue9
  t37 := Tryz.underlying58
  a37 := Tryz.isAgg58
  z37 := Tryz.sizeOf58
  v37 := Tryz.zeroValue58
  t70 := Tryz.underlying222
  a70 := Tryz.isAgg222
  z70 := Tryz.sizeOf222
  v70 := Tryz.zeroValue222
  t72 := Tryz.underlying224
  a72 := Tryz.isAgg224
  z72 := Tryz.sizeOf224
  v72 := Tryz.zeroValue224
  t127 := Tryz.underlying257
  a127 := Tryz.isAgg257
  z127 := Tryz.sizeOf257
  v127 := Tryz.zeroValue257 }
theorem Tryz.bld_Extra : Builder.Extra Tryz.prog Tryz.bld_ren := {
  sizeBuilder := by kernel_rfl
  liesBuilder := by kernel_rfl
  t5 := Tryz.underlying5
  a5 := Tryz.isAgg5
  z5 := Tryz.sizeOf5
  v5 := Tryz.zeroValue5
  infoByte := by kernel_rfl
  cellsByte := by kernel_rfl
  sizeByte := by kernel_rfl
  neB5 := by decide }
open Go.RowKit in
theorem Tryz.bld_WriteByte (B b : Nat) (bs : List Value) (c : Int) (w : World) (h : Lib.IsBuilder 224 5 B b bs w) (hlen : bs.length + 1 ≤ 140737488355328) (hBw : B ≤ w.heap.size) :
    Calls Tryz.prog 191 #[.pointer (some ⟨b, 0, none⟩), .int .u8 c] w fun e w' => e = .returned .nilIface ∧ (Lib.BuilderAt 224 5 B b (.pointer (some ⟨b, 0, none⟩)) (bs ++ [.int .u8 c]) w' ∧ Below B w w') := Any.Builder_WriteByte Tryz.bld167 Tryz.bld_Extra B b bs c w h hlen hBw
open Go.RowKit in
theorem Tryz.bld_WriteString (B b : Nat) (bs : List Value) (s : ByteArray) (w : World) (h : Lib.IsBuilder 224 5 B b bs w) (hlen : bs.length + s.size ≤ 140737488355328) (hBw : B ≤ w.heap.size) :
    Calls Tryz.prog 296 #[.pointer (some ⟨b, 0, none⟩), .string s] w fun e w' => e = .returned (.tuple #[.int .i64 s.size, .nilIface]) ∧ (Lib.BuilderAt 224 5 B b (.pointer (some ⟨b, 0, none⟩)) (bs ++ Lib.strCells s) w' ∧ Below B w w') := Any.Builder_WriteString Tryz.bld166 Tryz.bld_Extra B b bs s w h hlen hBw
open Go.RowKit in
theorem Tryz.bld_String (B b : Nat) (l : List UInt8) (w : World) (h : Lib.IsBuilder 224 5 B b (Lib.byteCells l) w) (hBw : B ≤ w.heap.size) :
    Calls Tryz.prog 192 #[.pointer (some ⟨b, 0, none⟩)] w fun e w' => e = .returned (.string ⟨l.toArray⟩) ∧ Below B w w' := Any.Builder_String_any Tryz.bld169 Tryz.bld_Extra B b l w h hBw
open Go.RowKit in
theorem Tryz.bld_WriteByte_k (B b : Nat) (bs : List Value) (c : Int) (w : World) (h : Lib.IsBuilderF 224 5 B b bs w) (hlen : bs.length + 1 ≤ 140737488355328) (hBw : B ≤ w.heap.size) :
    Calls Tryz.prog 191 #[.pointer (some ⟨b, 0, none⟩), .int .u8 c] w fun e w' => e = .returned .nilIface ∧ (Lib.BuilderAtF 224 5 B b (.pointer (some ⟨b, 0, none⟩)) (bs ++ [.int .u8 c]) w' ∧ Below B w w' ∧ Lib.OthersKept 5 (some b) w w') := Any.Builder_WriteByte_k Tryz.bld167 Tryz.bld_Extra B b bs c w h hlen hBw
open Go.RowKit in
theorem Tryz.bld_WriteString_k (B b : Nat) (bs : List Value) (s : ByteArray) (w : World) (h : Lib.IsBuilderF 224 5 B b bs w) (hlen : bs.length + s.size ≤ 140737488355328) (hBw : B ≤ w.heap.size) :
    Calls Tryz.prog 296 #[.pointer (some ⟨b, 0, none⟩), .string s] w fun e w' => e = .returned (.tuple #[.int .i64 s.size, .nilIface]) ∧ (Lib.BuilderAtF 224 5 B b (.pointer (some ⟨b, 0, none⟩)) (bs ++ Lib.strCells s) w' ∧ Below B w w' ∧ Lib.OthersKept 5 (some b) w w') := Any.Builder_WriteString_k Tryz.bld166 Tryz.bld_Extra B b bs s w h hlen hBw
open Go.RowKit in
theorem Tryz.bld_String_k (B b : Nat) (l : List UInt8) (w : World) (h : Lib.IsBuilderF 224 5 B b (Lib.byteCells l) w) (hBw : B ≤ w.heap.size) :
    Calls Tryz.prog 192 #[.pointer (some ⟨b, 0, none⟩)] w fun e w' => e = .returned (.string ⟨l.toArray⟩) ∧ (Lib.IsBuilderF 224 5 B b (Lib.byteCells l) w' ∧ Below B w w' ∧ Lib.OthersKept 5 (some b) w w') := Any.Builder_String_any_k Tryz.bld169 Tryz.bld_Extra B b l w h hBw
end Go.Proofs
