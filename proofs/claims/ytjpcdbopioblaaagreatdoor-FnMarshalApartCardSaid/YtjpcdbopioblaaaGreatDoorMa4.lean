/- Texts of this proof laid together by a program: EncFloat2, Assert, EncAnyI, SortLay, BuilderL, BuilderW, BufLay, BufferW, ByteRow. -/
import Derived.Test.YtjpcdbopioblaaaGreatDoorMa1
import Derived.Test.YtjpcdbopioblaaaGreatDoorMa3
import Derived.KernelRfl
import Derived.Stop.Asserts
import Derived.Deep.RegionHeld3
import Derived.Shelf.SlSortFuncK.WholeK
import Derived.Shelf.GgSortFunc.Tiny
import Derived.Ground.GgsProg
import Derived.Test.YtjpcdbopioblaaaGreatDoorProg
import Derived.Shelf.Strings.Builder1
import Derived.Shelf.Strings.BuilderF
import Derived.Shelf.Strings.BuilderK
import Derived.Lib.FrozenHead2
import Derived.Lib.OthersKept
import Derived.Lib.Hide
import Derived.WalkKit
import Derived.Shelf.Bytes.WriteAny
import Derived.Shelf.Bytes.BufferK
import Derived.Shelf.Bytes.Bytes
import Derived.Ground.NamesProg
import Derived.Lib.BufferKept
import Derived.Lib.AppendStr
import Derived.Lib.BufferRead
import Derived.Laws.IdiomStrings
/- The JSON encoder's encodeFloat64 walked at a half. -/
namespace Go.Proofs.YtjpcdbopioblaaaGreatDoor
open Go.RowKit

/-- How a half compares. -/
structure HalfCmp (F A : Nat) : Prop where
  same : FloatKind.f64.format.order F F = some .eq
  low : FloatKind.f64.format.order F 18442240474082181119 = some .gt
  high : FloatKind.f64.format.order F 9218868437227405311 = some .lt
  abs : bits .andNot .u64 (F : Int) 9223372036854775808 = (A : Int)
  e21 : FloatKind.f64.format.order A 4921056587992461136 = some .lt
  zero : (FloatKind.f64.format.order A 0 = some .eq) ∨ (FloatKind.f64.format.order A 0 = some .gt ∧ FloatKind.f64.format.order A 4517329193108106637 = some .gt)
theorem halfCmp (h : Int) (h1 : -9007199254740992 < h) (h2 : h < 9007199254740992) : ∃ A, HalfCmp (halfBits h) A := by
  by_cases h0 : h = 0
  · subst h0
    have e : halfBits 0 = 0 := by decide +kernel
    rw [e]
    exact ⟨0, by decide +kernel, by decide +kernel, by decide +kernel, by decide +kernel, by decide +kernel, .inl (by decide +kernel)⟩
  · exact ⟨halfBits (h.natAbs : Int), half_order_same h h0 h1 h2, half_gt_low h h0 h1 h2, half_lt_high h h0 h1 h2, half_abs h h0 h1 h2, half_lt_e21 _ (by omega) (by omega), .inr ⟨half_gt_0 _ (by omega) (by omega), half_gt_e6 _ (by omega) (by omega)⟩⟩

noncomputable def EncS.cells {K : Wr} {B b eb : Nat} {l : List UInt8} {W : World} (h : EncS K B b eb l W) : Array Value := h.enc.choose
theorem EncS.row {K : Wr} {B b eb : Nat} {l : List UInt8} {W : World} (h : EncS K B b eb l W) : W.heap[eb]? = some (.cells h.cells 105 (0, 0)) ∧ h.cells.size = 65 := ⟨h.enc.choose_spec.1, h.enc.choose_spec.2.2⟩
theorem EncS.row0 {K : Wr} {B b eb : Nat} {l : List UInt8} {W : World} (h : EncS K B b eb l W) : h.cells[0]? = some (.iface K.T (.pointer (some ⟨b, 0, none⟩))) := h.enc.choose_spec.2.1
/-- The buffer written. -/
theorem EncS.app {K : Wr} (hk : K.Keeps) {B b eb : Nat} {l : List UInt8} {W W' : World} {cs' : Array Value} (h : EncS K B b eb l W) (hb : W'.heap[eb]? = some (.cells cs' 105 (0, 0))) (hz : cs'.size = 65) (hc : cs'[0]? = h.cells[0]?) (hg : W.grownBy W' (some eb)) : EncS K B b eb l W' := by
  refine ⟨hk.kept _ _ _ _ _ h.bld (fun k o h1 _ h3 => ?_), ⟨cs', hb, hc.trans h.row0, hz⟩, h.ne, h.lo, Nat.le_trans h.size hg.size⟩
  by_cases hk2 : k = eb
  · subst hk2
    rw [h.row.1] at h1
    injection h1 with h1
    exact absurd h1.symm (h3 _ _)
  · exact (hg.block k (Array.getElem?_eq_some_iff.1 h1).1 (fun e => hk2 (by injection e))).trans h1
theorem enc_frame {B b eb : Nat} {W W1 W2 : World} (hlo : B ≤ eb) (hB : B ≤ W.heap.size) (hg : W.grownBy W1 (some eb)) (hb : Below B W1 W2) (hk : Lib.OthersKept 5 (some b) W1 W2) : Below B W W2 ∧ EKept b eb W W2 :=
  ⟨(below_gb (Below.refl B W) hg hB hlo).trans hb, (EKept.of_gb hg).trans (EKept.of_others hk)⟩

set_option maxRecDepth 100000 in
set_option maxHeartbeats 3200000 in
theorem encodeFloat64_any (K : Wr) (hk : K.Keeps) (hw : K.Writes) (h : Int) (B b eb : Nat) (l : List UInt8) (w : World) (hE : EncS K B b eb l w) (h1 : -9007199254740992 < h) (h2 : h < 9007199254740992) (hl : l.length ≤ 140737488355000) :
    Calls Tryz.prog 128 #[.pointer (some ⟨eb, 0, none⟩), .float .f64 (halfBits h)] w (EncPost K B b eb (l ++ numBytes h) w) := by
  obtain ⟨A, hA⟩ := halfCmp h h1 h2
  have HE := Lib.hid hE
  have HA : Hid (∀ (cs : Array Value) (wx : World), wx.heap[eb]? = some (.cells cs 105 (0, 0)) → cs.size = 65 → Calls Tryz.prog 159 #[.slice (some ⟨eb, 1, none⟩) 0 64, .float .f64 (halfBits h), .int .u8 102, .int .i64 (-1), .int .i64 64] wx (AppPost eb (numBytes h) cs wx)) := Lib.hid fun cs wx h3 h4 => appendFloat_any h eb cs wx h1 h2 h3 h4
  have hnl := numBytes_len h h1 h2
  generalize halfBits h = F at *
  generalize numBytes h = t at *
  have HN := Lib.hid (fun wx => isNaN_any F wx hA.same)
  have HB := Lib.hid (fun wx => abs_any F A wx hA.abs)
  have hmx := fun ts tt wx => run_max_gt (P := Tryz.prog) ts tt .f64 F 18442240474082181119 wx hA.low
  have hmn := fun ts tt wx => run_min_lt (P := Tryz.prog) ts tt .f64 F 9218868437227405311 wx hA.high
  have ho := hA.e21
  have hi := hE.iface
  have HZ := Lib.hid hA.zero
  clear hA hE h1 h2
  rcases HZ.out with hz | ⟨hz, hz2⟩
  all_goals
    go_enter Tryz.func128, Tryz.ntmps128
    go_wp2_with fail
    refine (HN.out _).mono ?_
    rintro e w2 ⟨rfl, rfl⟩
    go_wp2_with fail
    refine (HB.out _).mono ?_
    rintro e w2 ⟨rfl, rfl⟩
    go_wp2_with fail
    refine (HA.out _ _ HE.out.row.1 HE.out.row.2).mono ?_
    rintro e w3 ⟨cs', rfl, hb3, hz3, hc3, ht3, hg3⟩
    have HE3 := Lib.hid (HE.out.app hk hb3 hz3 hc3 hg3)
    have HG3 := Lib.hid (And.intro hb3 (And.intro ht3 hg3))
    clear hb3 hz3 hc3 ht3 hg3 hi
    have hi := HE3.out.iface
    have hme := hw.meth
    have hen := hw.enter
    go_wp2_with fail
    refine (hw.write B b eb 1 t.length 64 l t cs' w3 HE3.out.bld HG3.out.1 rfl HG3.out.2.1 (by omega) HE3.out.size).mono ?_
    rintro e w4 ⟨rfl, hw4⟩
    have HW4 := Lib.hid hw4
    clear hw4
    go_wp2_with fail
    go_end0
    exact ⟨rfl, HE3.out.wrote HW4.out, enc_frame HE.out.lo HE.out.size HG3.out.2.2 HW4.out.2.1 HW4.out.2.2⟩
end Go.Proofs.YtjpcdbopioblaaaGreatDoor

/- What an assertion gives at each dynamic type that the thin package makes: closed facts, by the kernel. -/
namespace Go.Proofs.YtjpcdbopioblaaaGreatDoor
open Go.RowKit
theorem as_bool_bool (v : Value) (w : World) : (Instr.typeAssert (.iface 4 v) 20 4 true).run Tryz.prog w = .ok (.tuple #[v, .bool true]) w := by kernel_rfl
theorem as_bool_int (v : Value) (w : World) : (Instr.typeAssert (.iface 4 v) 20 3 true).run Tryz.prog w = .ok (.tuple #[.int .i64 0, .bool false]) w := by kernel_rfl
theorem as_bool_float (v : Value) (w : World) : (Instr.typeAssert (.iface 4 v) 20 86 true).run Tryz.prog w = .ok (.tuple #[.float .f64 0, .bool false]) w := by kernel_rfl
theorem as_bool_str (v : Value) (w : World) : (Instr.typeAssert (.iface 4 v) 20 9 true).run Tryz.prog w = .ok (.tuple #[.string ByteArray.empty, .bool false]) w := by kernel_rfl
theorem as_bool_list (v : Value) (w : World) : (Instr.typeAssert (.iface 4 v) 20 87 true).run Tryz.prog w = .ok (.tuple #[.slice none 0 0, .bool false]) w := by kernel_rfl
theorem as_bool_map (v : Value) (w : World) : (Instr.typeAssert (.iface 4 v) 20 90 true).run Tryz.prog w = .ok (.tuple #[.map none, .bool false]) w := by kernel_rfl
theorem as_bool_big (v : Value) (w : World) : (Instr.typeAssert (.iface 4 v) 20 152 true).run Tryz.prog w = .ok (.tuple #[.pointer none, .bool false]) w := by kernel_rfl
theorem as_bool_num (v : Value) (w : World) : (Instr.typeAssert (.iface 4 v) 20 154 true).run Tryz.prog w = .ok (.tuple #[.string ByteArray.empty, .bool false]) w := by kernel_rfl
theorem as_int_bool (v : Value) (w : World) : (Instr.typeAssert (.iface 3 v) 20 4 true).run Tryz.prog w = .ok (.tuple #[.bool false, .bool false]) w := by kernel_rfl
theorem as_int_int (v : Value) (w : World) : (Instr.typeAssert (.iface 3 v) 20 3 true).run Tryz.prog w = .ok (.tuple #[v, .bool true]) w := by kernel_rfl
theorem as_int_float (v : Value) (w : World) : (Instr.typeAssert (.iface 3 v) 20 86 true).run Tryz.prog w = .ok (.tuple #[.float .f64 0, .bool false]) w := by kernel_rfl
theorem as_int_str (v : Value) (w : World) : (Instr.typeAssert (.iface 3 v) 20 9 true).run Tryz.prog w = .ok (.tuple #[.string ByteArray.empty, .bool false]) w := by kernel_rfl
theorem as_int_list (v : Value) (w : World) : (Instr.typeAssert (.iface 3 v) 20 87 true).run Tryz.prog w = .ok (.tuple #[.slice none 0 0, .bool false]) w := by kernel_rfl
theorem as_int_map (v : Value) (w : World) : (Instr.typeAssert (.iface 3 v) 20 90 true).run Tryz.prog w = .ok (.tuple #[.map none, .bool false]) w := by kernel_rfl
theorem as_int_big (v : Value) (w : World) : (Instr.typeAssert (.iface 3 v) 20 152 true).run Tryz.prog w = .ok (.tuple #[.pointer none, .bool false]) w := by kernel_rfl
theorem as_int_num (v : Value) (w : World) : (Instr.typeAssert (.iface 3 v) 20 154 true).run Tryz.prog w = .ok (.tuple #[.string ByteArray.empty, .bool false]) w := by kernel_rfl
theorem as_float_bool (v : Value) (w : World) : (Instr.typeAssert (.iface 86 v) 20 4 true).run Tryz.prog w = .ok (.tuple #[.bool false, .bool false]) w := by kernel_rfl
theorem as_float_int (v : Value) (w : World) : (Instr.typeAssert (.iface 86 v) 20 3 true).run Tryz.prog w = .ok (.tuple #[.int .i64 0, .bool false]) w := by kernel_rfl
theorem as_float_float (v : Value) (w : World) : (Instr.typeAssert (.iface 86 v) 20 86 true).run Tryz.prog w = .ok (.tuple #[v, .bool true]) w := by kernel_rfl
theorem as_float_str (v : Value) (w : World) : (Instr.typeAssert (.iface 86 v) 20 9 true).run Tryz.prog w = .ok (.tuple #[.string ByteArray.empty, .bool false]) w := by kernel_rfl
theorem as_float_list (v : Value) (w : World) : (Instr.typeAssert (.iface 86 v) 20 87 true).run Tryz.prog w = .ok (.tuple #[.slice none 0 0, .bool false]) w := by kernel_rfl
theorem as_float_map (v : Value) (w : World) : (Instr.typeAssert (.iface 86 v) 20 90 true).run Tryz.prog w = .ok (.tuple #[.map none, .bool false]) w := by kernel_rfl
theorem as_float_big (v : Value) (w : World) : (Instr.typeAssert (.iface 86 v) 20 152 true).run Tryz.prog w = .ok (.tuple #[.pointer none, .bool false]) w := by kernel_rfl
theorem as_float_num (v : Value) (w : World) : (Instr.typeAssert (.iface 86 v) 20 154 true).run Tryz.prog w = .ok (.tuple #[.string ByteArray.empty, .bool false]) w := by kernel_rfl
theorem as_str_bool (v : Value) (w : World) : (Instr.typeAssert (.iface 9 v) 20 4 true).run Tryz.prog w = .ok (.tuple #[.bool false, .bool false]) w := by kernel_rfl
theorem as_str_int (v : Value) (w : World) : (Instr.typeAssert (.iface 9 v) 20 3 true).run Tryz.prog w = .ok (.tuple #[.int .i64 0, .bool false]) w := by kernel_rfl
theorem as_str_float (v : Value) (w : World) : (Instr.typeAssert (.iface 9 v) 20 86 true).run Tryz.prog w = .ok (.tuple #[.float .f64 0, .bool false]) w := by kernel_rfl
theorem as_str_str (v : Value) (w : World) : (Instr.typeAssert (.iface 9 v) 20 9 true).run Tryz.prog w = .ok (.tuple #[v, .bool true]) w := by kernel_rfl
theorem as_str_list (v : Value) (w : World) : (Instr.typeAssert (.iface 9 v) 20 87 true).run Tryz.prog w = .ok (.tuple #[.slice none 0 0, .bool false]) w := by kernel_rfl
theorem as_str_map (v : Value) (w : World) : (Instr.typeAssert (.iface 9 v) 20 90 true).run Tryz.prog w = .ok (.tuple #[.map none, .bool false]) w := by kernel_rfl
theorem as_str_big (v : Value) (w : World) : (Instr.typeAssert (.iface 9 v) 20 152 true).run Tryz.prog w = .ok (.tuple #[.pointer none, .bool false]) w := by kernel_rfl
theorem as_str_num (v : Value) (w : World) : (Instr.typeAssert (.iface 9 v) 20 154 true).run Tryz.prog w = .ok (.tuple #[.string ByteArray.empty, .bool false]) w := by kernel_rfl
theorem as_list_bool (v : Value) (w : World) : (Instr.typeAssert (.iface 87 v) 20 4 true).run Tryz.prog w = .ok (.tuple #[.bool false, .bool false]) w := by kernel_rfl
theorem as_list_int (v : Value) (w : World) : (Instr.typeAssert (.iface 87 v) 20 3 true).run Tryz.prog w = .ok (.tuple #[.int .i64 0, .bool false]) w := by kernel_rfl
theorem as_list_float (v : Value) (w : World) : (Instr.typeAssert (.iface 87 v) 20 86 true).run Tryz.prog w = .ok (.tuple #[.float .f64 0, .bool false]) w := by kernel_rfl
theorem as_list_str (v : Value) (w : World) : (Instr.typeAssert (.iface 87 v) 20 9 true).run Tryz.prog w = .ok (.tuple #[.string ByteArray.empty, .bool false]) w := by kernel_rfl
theorem as_list_list (v : Value) (w : World) : (Instr.typeAssert (.iface 87 v) 20 87 true).run Tryz.prog w = .ok (.tuple #[v, .bool true]) w := by kernel_rfl
theorem as_list_map (v : Value) (w : World) : (Instr.typeAssert (.iface 87 v) 20 90 true).run Tryz.prog w = .ok (.tuple #[.map none, .bool false]) w := by kernel_rfl
theorem as_list_big (v : Value) (w : World) : (Instr.typeAssert (.iface 87 v) 20 152 true).run Tryz.prog w = .ok (.tuple #[.pointer none, .bool false]) w := by kernel_rfl
theorem as_list_num (v : Value) (w : World) : (Instr.typeAssert (.iface 87 v) 20 154 true).run Tryz.prog w = .ok (.tuple #[.string ByteArray.empty, .bool false]) w := by kernel_rfl
theorem as_map_bool (v : Value) (w : World) : (Instr.typeAssert (.iface 90 v) 20 4 true).run Tryz.prog w = .ok (.tuple #[.bool false, .bool false]) w := by kernel_rfl
theorem as_map_int (v : Value) (w : World) : (Instr.typeAssert (.iface 90 v) 20 3 true).run Tryz.prog w = .ok (.tuple #[.int .i64 0, .bool false]) w := by kernel_rfl
theorem as_map_float (v : Value) (w : World) : (Instr.typeAssert (.iface 90 v) 20 86 true).run Tryz.prog w = .ok (.tuple #[.float .f64 0, .bool false]) w := by kernel_rfl
theorem as_map_str (v : Value) (w : World) : (Instr.typeAssert (.iface 90 v) 20 9 true).run Tryz.prog w = .ok (.tuple #[.string ByteArray.empty, .bool false]) w := by kernel_rfl
theorem as_map_list (v : Value) (w : World) : (Instr.typeAssert (.iface 90 v) 20 87 true).run Tryz.prog w = .ok (.tuple #[.slice none 0 0, .bool false]) w := by kernel_rfl
theorem as_map_map (v : Value) (w : World) : (Instr.typeAssert (.iface 90 v) 20 90 true).run Tryz.prog w = .ok (.tuple #[v, .bool true]) w := by kernel_rfl
theorem as_map_big (v : Value) (w : World) : (Instr.typeAssert (.iface 90 v) 20 152 true).run Tryz.prog w = .ok (.tuple #[.pointer none, .bool false]) w := by kernel_rfl
theorem as_map_num (v : Value) (w : World) : (Instr.typeAssert (.iface 90 v) 20 154 true).run Tryz.prog w = .ok (.tuple #[.string ByteArray.empty, .bool false]) w := by kernel_rfl
theorem as_nil_bool (w : World) : (Instr.typeAssert .nilIface 20 4 true).run Tryz.prog w = .ok (.tuple #[.bool false, .bool false]) w := by kernel_rfl
theorem as_nil_int (w : World) : (Instr.typeAssert .nilIface 20 3 true).run Tryz.prog w = .ok (.tuple #[.int .i64 0, .bool false]) w := by kernel_rfl
theorem as_nil_float (w : World) : (Instr.typeAssert .nilIface 20 86 true).run Tryz.prog w = .ok (.tuple #[.float .f64 0, .bool false]) w := by kernel_rfl
theorem as_nil_str (w : World) : (Instr.typeAssert .nilIface 20 9 true).run Tryz.prog w = .ok (.tuple #[.string ByteArray.empty, .bool false]) w := by kernel_rfl
theorem as_nil_list (w : World) : (Instr.typeAssert .nilIface 20 87 true).run Tryz.prog w = .ok (.tuple #[.slice none 0 0, .bool false]) w := by kernel_rfl
theorem as_nil_map (w : World) : (Instr.typeAssert .nilIface 20 90 true).run Tryz.prog w = .ok (.tuple #[.map none, .bool false]) w := by kernel_rfl
theorem as_nil_big (w : World) : (Instr.typeAssert .nilIface 20 152 true).run Tryz.prog w = .ok (.tuple #[.pointer none, .bool false]) w := by kernel_rfl
theorem as_nil_num (w : World) : (Instr.typeAssert .nilIface 20 154 true).run Tryz.prog w = .ok (.tuple #[.string ByteArray.empty, .bool false]) w := by kernel_rfl
theorem as_nil_error (w : World) : (Instr.typeAssert .nilIface 20 60 true).run Tryz.prog w = .ok (.tuple #[.nilIface, .bool false]) w := by kernel_rfl
theorem as_bool_error (v : Value) (w : World) : (Instr.typeAssert (.iface 4 v) 20 60 true).run Tryz.prog w = .ok (.tuple #[.nilIface, .bool false]) w := run_typeAssert_lacksB Tryz.underlying60 (by kernel_rfl) (by kernel_rfl) v 20 w
theorem as_int_error (v : Value) (w : World) : (Instr.typeAssert (.iface 3 v) 20 60 true).run Tryz.prog w = .ok (.tuple #[.nilIface, .bool false]) w := run_typeAssert_lacksB Tryz.underlying60 (by kernel_rfl) (by kernel_rfl) v 20 w
theorem as_float_error (v : Value) (w : World) : (Instr.typeAssert (.iface 86 v) 20 60 true).run Tryz.prog w = .ok (.tuple #[.nilIface, .bool false]) w := run_typeAssert_lacksB Tryz.underlying60 (by kernel_rfl) (by kernel_rfl) v 20 w
theorem as_str_error (v : Value) (w : World) : (Instr.typeAssert (.iface 9 v) 20 60 true).run Tryz.prog w = .ok (.tuple #[.nilIface, .bool false]) w := run_typeAssert_lacksB Tryz.underlying60 (by kernel_rfl) (by kernel_rfl) v 20 w
theorem as_list_error (v : Value) (w : World) : (Instr.typeAssert (.iface 87 v) 20 60 true).run Tryz.prog w = .ok (.tuple #[.nilIface, .bool false]) w := run_typeAssert_lacksB Tryz.underlying60 (by kernel_rfl) (by kernel_rfl) v 20 w
theorem as_map_error (v : Value) (w : World) : (Instr.typeAssert (.iface 90 v) 20 60 true).run Tryz.prog w = .ok (.tuple #[.nilIface, .bool false]) w := run_typeAssert_lacksB Tryz.underlying60 (by kernel_rfl) (by kernel_rfl) v 20 w
end Go.Proofs.YtjpcdbopioblaaaGreatDoor

/- encode's arm of integers, for whatever writer. -/
namespace Go.Proofs.YtjpcdbopioblaaaGreatDoor
open Go.RowKit

set_option maxRecDepth 100000 in
set_option maxHeartbeats 3200000 in
theorem encode_int {K : Wr} (hKp : K.Keeps) (hKw : K.Writes) (n : Int) (B b eb : Nat) (l0 : List UInt8) (w : World) (h1 : -9223372036854775808 ≤ n) (h2 : n ≤ 9223372036854775807) (hS : EncS K B b eb l0 w) (hlen : l0.length + 40 ≤ 140737488355000) :
    Calls Tryz.prog 77 #[.pointer (some ⟨eb, 0, none⟩), .iface 3 (.int .i64 n)] w (EncPost K B b eb (l0 ++ intText n) w) := by
  have HS := Lib.hid (hS.drew hKp)
  have HW0 := Lib.hid hS.size
  have HN := Lib.hid (And.intro h1 h2)
  have HT := Lib.hid (intText_len h1 h2)
  have hc0 := hS.iface
  have HL := Lib.hid hlen
  have HK := Lib.hid hKp
  clear hS h1 h2 hlen hKp
  have hmw := hKw.meth
  have henw := hKw.enter
  have HKw := Lib.hid hKw
  clear hKw
  unfold EncPost
  have q1 := as_int_bool (.int .i64 n)
  have q2 := as_int_int (.int .i64 n)
  go_enter Tryz.func77, Tryz.ntmps77
  go_wp2_with fail
  go_region_held3 (fun W => W.cell? ⟨eb, 0, none⟩ = some (.iface K.T (.pointer (some ⟨b, 0, none⟩)))) (first | exact hc0 | exact HE3.out.iface | exact (HE3.out.wrote HW4.out).iface) (first
    | (refine (appendInt_any n eb _ _ HN.out.1 HN.out.2 HS.out.row.1 HS.out.row.2).mono ?_; rintro e w3 ⟨cs', rfl, hb3, hz3, hc3, ht3, hg3⟩; have HE3 := Lib.hid (HS.out.app HK.out hb3 hz3 hc3 hg3); have HG3 := Lib.hid (And.intro hb3 (And.intro ht3 hg3)); clear hb3 hz3 hc3 ht3 hg3)
    | (refine (HKw.out.write B b eb 1 (intText n).length 64 l0 (intText n) cs' w3 HE3.out.bld HG3.out.1 rfl HG3.out.2.1 (by have := HL.out; have := HT.out; omega) HE3.out.size).mono ?_; rintro e w4 ⟨rfl, hw4⟩; have HW4 := Lib.hid hw4; clear hw4))
  go_wp2_with fail
  go_end0
  have hf := enc_frame HS.out.lo HS.out.size HG3.out.2.2 HW4.out.2.1 HW4.out.2.2
  exact ⟨rfl, HE3.out.wrote HW4.out, ⟨hf.1.os, hf.1.tape, hf.1.output, hf.1.size, hf.1.block⟩, fun k o h => hf.2 k o h⟩
end Go.Proofs.YtjpcdbopioblaaaGreatDoor

/-
  DERIVED: THE SHELF's CONTRACTS AT THIS DUMP, IN PLAIN WORDS (tools/lay-plain.mjs out of 'TryzSortLayTry.lean', which tools/lay-shelf.mjs wrote): THE SAME DECLARATIONS UNDER THE SAME NAMES: 'import', 'namespace', 'open', 'def', 'theorem' AND NOTHING ELSE: no command of the shelf's: FOR A HAND-IN. Each laying: the table of numbers ('.._ren') and one theorem, a field a fact of the dump's own or the kernel's comparison; each contract: ONE APPLICATION.
-/
namespace Go.Proofs
open Go.Shelf
def Tryz.sort6_ren : Go.Shelf.Ren := ⟨fun | 6 => 162 | 10 => 181 | 11 => 182 | 12 => 183 | 13 => 184 | 14 => 185 | 24 => 216 | 25 => 217 | 26 => 218 | 27 => 219 | 28 => 220 | 29 => 221 | 30 => 222 | 31 => 223 | 32 => 224 | 33 => 225 | 34 => 246 | 35 => 247 | 36 => 248 | 37 => 249 | 38 => 250 | 39 => 259 | n => n, fun | 20 => 20 | 26 => 139 | 35 => 208 | 0 => 0 | 37 => 210 | 3 => 3 | 41 => 71 | 44 => 216 | 49 => 229 | 51 => 116 | 4 => 4 | 54 => 251 | 53 => 250 | 58 => 81 | 5 => 5 | 9 => 9 | 60 => 270 | 64 => 274 | 66 => 281 | 67 => 282 | 17 => 17 | 32 => 205 | 33 => 206 | 82 => 297 | 12 => 12 | 75 => 291 | 76 => 292 | 77 => 293 | 78 => 257 | 79 => 294 | 80 => 295 | n => n, fun | n => n⟩
theorem Tryz.sort6 : Go.Proofs.LaysGg.n6 Tryz.prog Tryz.sort6_ren := {
  mixed := by kernel_rfl
  f6 := Tryz.func162.trans (congrArg some (by kernel_rfl))
  f10 := Tryz.func181.trans (congrArg some (by kernel_rfl))
  f11 := Tryz.func182.trans (congrArg some (by kernel_rfl))
  f12 := Tryz.func183.trans (congrArg some (by kernel_rfl))
  f13 := Tryz.func184.trans (congrArg some (by kernel_rfl))
  f14 := Tryz.func185.trans (congrArg some (by kernel_rfl))
  f24 := Tryz.func216.trans (congrArg some (by kernel_rfl))
  f25 := Tryz.func217.trans (congrArg some (by kernel_rfl))
  f26 := Tryz.func218.trans (congrArg some (by kernel_rfl))
  f27 := Tryz.func219.trans (congrArg some (by kernel_rfl))
  f28 := Tryz.func220.trans (congrArg some (by kernel_rfl))
  f29 := Tryz.func221.trans (congrArg some (by kernel_rfl))
  f30 := Tryz.func222.trans (congrArg some (by kernel_rfl))
  f31 := Tryz.func223.trans (congrArg some (by kernel_rfl))
  f32 := Tryz.func224.trans (congrArg some (by kernel_rfl))
  f33 := Tryz.func225.trans (congrArg some (by kernel_rfl))
  f34 := Tryz.func246.trans (congrArg some (by kernel_rfl))
  f35 := Tryz.func247.trans (congrArg some (by kernel_rfl))
  f36 := Tryz.func248.trans (congrArg some (by kernel_rfl))
  f37 := Tryz.func249.trans (congrArg some (by kernel_rfl))
  f38 := Tryz.func250.trans (congrArg some (by kernel_rfl))
  f39 := Tryz.func259.trans (congrArg some (by kernel_rfl))
  t0 := Tryz.underlying0
  a0 := Tryz.isAgg0
  z0 := Tryz.sizeOf0
  v0 := Tryz.zeroValue0
  i0 := by kernel_rfl
  t3 := Tryz.underlying3
  a3 := Tryz.isAgg3
  z3 := Tryz.sizeOf3
  v3 := Tryz.zeroValue3
  i3 := by kernel_rfl
  t4 := Tryz.underlying4
  a4 := Tryz.isAgg4
  z4 := Tryz.sizeOf4
  v4 := Tryz.zeroValue4
  i4 := by kernel_rfl
  t5 := Tryz.underlying5
  a5 := Tryz.isAgg5
  z5 := Tryz.sizeOf5
  v5 := Tryz.zeroValue5
  i5 := by kernel_rfl
  t9 := Tryz.underlying9
  a9 := Tryz.isAgg9
  z9 := Tryz.sizeOf9
  v9 := Tryz.zeroValue9
  i9 := by kernel_rfl
  t12 := Tryz.underlying12
  a12 := Tryz.isAgg12
  z12 := Tryz.sizeOf12
  v12 := Tryz.zeroValue12
  i12 := by kernel_rfl
  t17 := Tryz.underlying17
  a17 := Tryz.isAgg17
  z17 := Tryz.sizeOf17
  v17 := Tryz.zeroValue17
  i17 := by kernel_rfl
  t20 := Tryz.underlying20
  a20 := Tryz.isAgg20
  z20 := Tryz.sizeOf20
  v20 := Tryz.zeroValue20
  i20 := by kernel_rfl
  t26 := Tryz.underlying139
  a26 := Tryz.isAgg139
  z26 := Tryz.sizeOf139
  v26 := Tryz.zeroValue139
  i26 := by kernel_rfl
  t32 := Tryz.underlying205
  a32 := Tryz.isAgg205
  z32 := Tryz.sizeOf205
  v32 := Tryz.zeroValue205
  i32 := by kernel_rfl
  t33 := Tryz.underlying206
  a33 := Tryz.isAgg206
  z33 := Tryz.sizeOf206
  v33 := Tryz.zeroValue206
  i33 := by kernel_rfl
  t35 := Tryz.underlying208
  a35 := Tryz.isAgg208
  z35 := Tryz.sizeOf208
  v35 := Tryz.zeroValue208
  i35 := by kernel_rfl
  t37 := Tryz.underlying210
  a37 := Tryz.isAgg210
  z37 := Tryz.sizeOf210
  v37 := Tryz.zeroValue210
  i37 := by kernel_rfl
  t41 := Tryz.underlying71
  a41 := Tryz.isAgg71
  z41 := Tryz.sizeOf71
  v41 := Tryz.zeroValue71
  i41 := by kernel_rfl
  t44 := Tryz.underlying216
  a44 := Tryz.isAgg216
  z44 := Tryz.sizeOf216
  v44 := Tryz.zeroValue216
  i44 := by kernel_rfl
  t49 := Tryz.underlying229
  a49 := Tryz.isAgg229
  z49 := Tryz.sizeOf229
  v49 := Tryz.zeroValue229
  i49 := by kernel_rfl
  t51 := Tryz.underlying116
  a51 := Tryz.isAgg116
  z51 := Tryz.sizeOf116
  v51 := Tryz.zeroValue116
  i51 := by kernel_rfl
  t53 := Tryz.underlying250
  a53 := Tryz.isAgg250
  z53 := Tryz.sizeOf250
  v53 := Tryz.zeroValue250
  i53 := by kernel_rfl
  t54 := Tryz.underlying251
  a54 := Tryz.isAgg251
  z54 := Tryz.sizeOf251
  v54 := Tryz.zeroValue251
  i54 := by kernel_rfl
  t58 := Tryz.underlying81
  a58 := Tryz.isAgg81
  z58 := Tryz.sizeOf81
  v58 := Tryz.zeroValue81
  i58 := by kernel_rfl
  t60 := Tryz.underlying270
  a60 := Tryz.isAgg270
  z60 := Tryz.sizeOf270
  v60 := Tryz.zeroValue270
  i60 := by kernel_rfl
  t64 := Tryz.underlying274
  a64 := Tryz.isAgg274
  z64 := Tryz.sizeOf274
  v64 := Tryz.zeroValue274
  i64 := by kernel_rfl
  t66 := Tryz.underlying281
  a66 := Tryz.isAgg281
  z66 := Tryz.sizeOf281
  v66 := Tryz.zeroValue281
  i66 := by kernel_rfl
  t67 := Tryz.underlying282
  a67 := Tryz.isAgg282
  z67 := Tryz.sizeOf282
  v67 := Tryz.zeroValue282
  i67 := by kernel_rfl
  t75 := Tryz.underlying291
  a75 := Tryz.isAgg291
  z75 := Tryz.sizeOf291
  v75 := Tryz.zeroValue291
  i75 := by kernel_rfl
  t76 := Tryz.underlying292
  a76 := Tryz.isAgg292
  z76 := Tryz.sizeOf292
  v76 := Tryz.zeroValue292
  i76 := by kernel_rfl
  t77 := Tryz.underlying293
  a77 := Tryz.isAgg293
  z77 := Tryz.sizeOf293
  v77 := Tryz.zeroValue293
  i77 := by kernel_rfl
  t78 := Tryz.underlying257
  a78 := Tryz.isAgg257
  z78 := Tryz.sizeOf257
  v78 := Tryz.zeroValue257
  i78 := by kernel_rfl
  t79 := Tryz.underlying294
  a79 := Tryz.isAgg294
  z79 := Tryz.sizeOf294
  v79 := Tryz.zeroValue294
  i79 := by kernel_rfl
  t80 := Tryz.underlying295
  a80 := Tryz.isAgg295
  z80 := Tryz.sizeOf295
  v80 := Tryz.zeroValue295
  i80 := by kernel_rfl
  t82 := Tryz.underlying297
  a82 := Tryz.isAgg297
  z82 := Tryz.sizeOf297
  v82 := Tryz.zeroValue297
  i82 := by kernel_rfl }
end Go.Proofs

/- strings.Builder: the library's contracts on copyCheck, WriteByte, WriteString and String at this dump, laid by hand (the laying command falls at the types that only a refused arm names). -/
namespace Go.Proofs
open Go.Shelf
def Tryz.bld_ren : Go.Shelf.Ren := ⟨fun | 166 => 296 | 167 => 191 | 169 => 192 | 240 => 226 | 276 => 251 | n => n, fun | 0 => 0 | 3 => 3 | 4 => 4 | 5 => 5 | 9 => 9 | 20 => 20 | 37 => 58 | 70 => 222 | 72 => 224 | 75 => 60 | 80 => 155 | 127 => 257 | 164 => 205 | n => n, fun | n => n⟩
theorem Tryz.bld240 : Go.Proofs.Lays.n240 Tryz.prog Tryz.bld_ren := {
  mixed := by kernel_rfl
  f240 := Tryz.func226.trans (congrArg some (by kernel_rfl))
  f276 := Tryz.func251.trans (congrArg some (by kernel_rfl))
  t0 := Tryz.underlying0
  a0 := Tryz.isAgg0
  z0 := Tryz.sizeOf0
  v0 := Tryz.zeroValue0
  t4 := Tryz.underlying4
  a4 := Tryz.isAgg4
  z4 := Tryz.sizeOf4
  v4 := Tryz.zeroValue4
  t9 := Tryz.underlying9
  a9 := Tryz.isAgg9
  z9 := Tryz.sizeOf9
  v9 := Tryz.zeroValue9
  t20 := Tryz.underlying20
  a20 := Tryz.isAgg20
  z20 := Tryz.sizeOf20
  v20 := Tryz.zeroValue20
  t70 := Tryz.underlying222
  a70 := Tryz.isAgg222
  z70 := Tryz.sizeOf222
  v70 := Tryz.zeroValue222
  t72 := Tryz.underlying224
  a72 := Tryz.isAgg224
  z72 := Tryz.sizeOf224
  v72 := Tryz.zeroValue224
  t164 := Tryz.underlying205
  a164 := Tryz.isAgg205
  z164 := Tryz.sizeOf205
  v164 := Tryz.zeroValue205 }
theorem Tryz.bld167 : Go.Proofs.Lays.n167 Tryz.prog Tryz.bld_ren := {
  mixed := by kernel_rfl
  f167 := Tryz.func191.trans (congrArg some (by kernel_rfl))
  f240 := Tryz.func226.trans (congrArg some (by kernel_rfl))
  f276 := Tryz.func251.trans (congrArg some (by kernel_rfl))
  t0 := Tryz.underlying0
  a0 := Tryz.isAgg0
  z0 := Tryz.sizeOf0
  v0 := Tryz.zeroValue0
  t4 := Tryz.underlying4
  a4 := Tryz.isAgg4
  z4 := Tryz.sizeOf4
  v4 := Tryz.zeroValue4
  t5 := Tryz.underlying5
  a5 := Tryz.isAgg5
  z5 := Tryz.sizeOf5
  v5 := Tryz.zeroValue5
  t9 := Tryz.underlying9
  a9 := Tryz.isAgg9
  z9 := Tryz.sizeOf9
  v9 := Tryz.zeroValue9
  t20 := Tryz.underlying20
  a20 := Tryz.isAgg20
  z20 := Tryz.sizeOf20
  v20 := Tryz.zeroValue20
  t37 := Tryz.underlying58
  a37 := Tryz.isAgg58
  z37 := Tryz.sizeOf58
  v37 := Tryz.zeroValue58
  t70 := Tryz.underlying222
  a70 := Tryz.isAgg222
  z70 := Tryz.sizeOf222
  v70 := Tryz.zeroValue222
  t72 := Tryz.underlying224
  a72 := Tryz.isAgg224
  z72 := Tryz.sizeOf224
  v72 := Tryz.zeroValue224
  t75 := Tryz.underlying60
  a75 := Tryz.isAgg60
  z75 := Tryz.sizeOf60
  v75 := Tryz.zeroValue60
  t164 := Tryz.underlying205
  a164 := Tryz.isAgg205
  z164 := Tryz.sizeOf205
  v164 := Tryz.zeroValue205 }
theorem Tryz.bld166 : Go.Proofs.Lays.n166 Tryz.prog Tryz.bld_ren := {
  mixed := by kernel_rfl
  f166 := Tryz.func296.trans (congrArg some (by kernel_rfl))
  f240 := Tryz.func226.trans (congrArg some (by kernel_rfl))
  f276 := Tryz.func251.trans (congrArg some (by kernel_rfl))
  t0 := Tryz.underlying0
  a0 := Tryz.isAgg0
  z0 := Tryz.sizeOf0
  v0 := Tryz.zeroValue0
  t3 := Tryz.underlying3
  a3 := Tryz.isAgg3
  z3 := Tryz.sizeOf3
  v3 := Tryz.zeroValue3
  t4 := Tryz.underlying4
  a4 := Tryz.isAgg4
  z4 := Tryz.sizeOf4
  v4 := Tryz.zeroValue4
  t9 := Tryz.underlying9
  a9 := Tryz.isAgg9
  z9 := Tryz.sizeOf9
  v9 := Tryz.zeroValue9
  t20 := Tryz.underlying20
  a20 := Tryz.isAgg20
  z20 := Tryz.sizeOf20
  v20 := Tryz.zeroValue20
  t37 := Tryz.underlying58
  a37 := Tryz.isAgg58
  z37 := Tryz.sizeOf58
  v37 := Tryz.zeroValue58
  t70 := Tryz.underlying222
  a70 := Tryz.isAgg222
  z70 := Tryz.sizeOf222
  v70 := Tryz.zeroValue222
  t72 := Tryz.underlying224
  a72 := Tryz.isAgg224
  z72 := Tryz.sizeOf224
  v72 := Tryz.zeroValue224
  t75 := Tryz.underlying60
  a75 := Tryz.isAgg60
  z75 := Tryz.sizeOf60
  v75 := Tryz.zeroValue60
  t164 := Tryz.underlying205
  a164 := Tryz.isAgg205
  z164 := Tryz.sizeOf205
  v164 := Tryz.zeroValue205 }
theorem Tryz.bld169 : Go.Proofs.Lays.n169 Tryz.prog Tryz.bld_ren := {
  mixed := by kernel_rfl
  f169 := Tryz.func192.trans (congrArg some (by kernel_rfl))
  t0 := Tryz.underlying0
  a0 := Tryz.isAgg0
  z0 := Tryz.sizeOf0
  v0 := Tryz.zeroValue0
  t3 := Tryz.underlying3
  a3 := Tryz.isAgg3
  z3 := Tryz.sizeOf3
  v3 := Tryz.zeroValue3
  t9 := Tryz.underlying9
  a9 := Tryz.isAgg9
  z9 := Tryz.sizeOf9
  v9 := Tryz.zeroValue9
  t37 := Tryz.underlying58
  a37 := Tryz.isAgg58
  z37 := Tryz.sizeOf58
  v37 := Tryz.zeroValue58
  t70 := Tryz.underlying222
  a70 := Tryz.isAgg222
  z70 := Tryz.sizeOf222
  v70 := Tryz.zeroValue222
  t72 := Tryz.underlying224
  a72 := Tryz.isAgg224
  z72 := Tryz.sizeOf224
  v72 := Tryz.zeroValue224
  t127 := Tryz.underlying257
  a127 := Tryz.isAgg257
  z127 := Tryz.sizeOf257
  v127 := Tryz.zeroValue257 }
theorem Tryz.bld_Extra : Builder.Extra Tryz.prog Tryz.bld_ren := {
  sizeBuilder := by kernel_rfl
  liesBuilder := by kernel_rfl
  t5 := Tryz.underlying5
  a5 := Tryz.isAgg5
  z5 := Tryz.sizeOf5
  v5 := Tryz.zeroValue5
  infoByte := by kernel_rfl
  cellsByte := by kernel_rfl
  sizeByte := by kernel_rfl
  neB5 := by decide }
open Go.RowKit in
theorem Tryz.bld_WriteByte (B b : Nat) (bs : List Value) (c : Int) (w : World) (h : Lib.IsBuilder 224 5 B b bs w) (hlen : bs.length + 1 ≤ 140737488355328) (hBw : B ≤ w.heap.size) :
    Calls Tryz.prog 191 #[.pointer (some ⟨b, 0, none⟩), .int .u8 c] w fun e w' => e = .returned .nilIface ∧ (Lib.BuilderAt 224 5 B b (.pointer (some ⟨b, 0, none⟩)) (bs ++ [.int .u8 c]) w' ∧ Below B w w') := Any.Builder_WriteByte Tryz.bld167 Tryz.bld_Extra B b bs c w h hlen hBw
open Go.RowKit in
theorem Tryz.bld_WriteString (B b : Nat) (bs : List Value) (s : ByteArray) (w : World) (h : Lib.IsBuilder 224 5 B b bs w) (hlen : bs.length + s.size ≤ 140737488355328) (hBw : B ≤ w.heap.size) :
    Calls Tryz.prog 296 #[.pointer (some ⟨b, 0, none⟩), .string s] w fun e w' => e = .returned (.tuple #[.int .i64 s.size, .nilIface]) ∧ (Lib.BuilderAt 224 5 B b (.pointer (some ⟨b, 0, none⟩)) (bs ++ Lib.strCells s) w' ∧ Below B w w') := Any.Builder_WriteString Tryz.bld166 Tryz.bld_Extra B b bs s w h hlen hBw
open Go.RowKit in
theorem Tryz.bld_String (B b : Nat) (l : List UInt8) (w : World) (h : Lib.IsBuilder 224 5 B b (Lib.byteCells l) w) (hBw : B ≤ w.heap.size) :
    Calls Tryz.prog 192 #[.pointer (some ⟨b, 0, none⟩)] w fun e w' => e = .returned (.string ⟨l.toArray⟩) ∧ Below B w w' := Any.Builder_String_any Tryz.bld169 Tryz.bld_Extra B b l w h hBw
open Go.RowKit in
theorem Tryz.bld_WriteByte_k (B b : Nat) (bs : List Value) (c : Int) (w : World) (h : Lib.IsBuilderF 224 5 B b bs w) (hlen : bs.length + 1 ≤ 140737488355328) (hBw : B ≤ w.heap.size) :
    Calls Tryz.prog 191 #[.pointer (some ⟨b, 0, none⟩), .int .u8 c] w fun e w' => e = .returned .nilIface ∧ (Lib.BuilderAtF 224 5 B b (.pointer (some ⟨b, 0, none⟩)) (bs ++ [.int .u8 c]) w' ∧ Below B w w' ∧ Lib.OthersKept 5 (some b) w w') := Any.Builder_WriteByte_k Tryz.bld167 Tryz.bld_Extra B b bs c w h hlen hBw
open Go.RowKit in
theorem Tryz.bld_WriteString_k (B b : Nat) (bs : List Value) (s : ByteArray) (w : World) (h : Lib.IsBuilderF 224 5 B b bs w) (hlen : bs.length + s.size ≤ 140737488355328) (hBw : B ≤ w.heap.size) :
    Calls Tryz.prog 296 #[.pointer (some ⟨b, 0, none⟩), .string s] w fun e w' => e = .returned (.tuple #[.int .i64 s.size, .nilIface]) ∧ (Lib.BuilderAtF 224 5 B b (.pointer (some ⟨b, 0, none⟩)) (bs ++ Lib.strCells s) w' ∧ Below B w w' ∧ Lib.OthersKept 5 (some b) w w') := Any.Builder_WriteString_k Tryz.bld166 Tryz.bld_Extra B b bs s w h hlen hBw
open Go.RowKit in
theorem Tryz.bld_String_k (B b : Nat) (l : List UInt8) (w : World) (h : Lib.IsBuilderF 224 5 B b (Lib.byteCells l) w) (hBw : B ≤ w.heap.size) :
    Calls Tryz.prog 192 #[.pointer (some ⟨b, 0, none⟩)] w fun e w' => e = .returned (.string ⟨l.toArray⟩) ∧ (Lib.IsBuilderF 224 5 B b (Lib.byteCells l) w' ∧ Below B w w' ∧ Lib.OthersKept 5 (some b) w w') := Any.Builder_String_any_k Tryz.bld169 Tryz.bld_Extra B b l w h hBw
end Go.Proofs

/- strings.Builder as a writer of the JSON encoder's; (*strings.Builder).Write walked. -/
namespace Go.Proofs.YtjpcdbopioblaaaGreatDoor
open Go.RowKit

theorem byteInfoW : ∃ i : TypeInfo, Tryz.prog.info? 5 = some i ∧ i.zero = some (.int .u8 0) ∧ i.size = 1 ∧ i.bytes = 1 := by
  have hinfo : (Tryz.prog.info? 5).map (fun i => (i.zero, i.size, i.bytes)) = some (some (Value.int IntKind.u8 0), 1, 1) := by kernel_rfl
  obtain ⟨i, hi, he⟩ := Option.map_eq_some_iff.1 hinfo
  simp only [Prod.mk.injEq] at he
  exact ⟨i, hi, he.1, he.2.1, he.2.2⟩

set_option maxRecDepth 100000 in
set_option maxHeartbeats 1600000 in
theorem bld_Write_k (B b : Nat) (bs : List Value) (g o n cap : Nat) (cs : Array Value) (news : List Value) (hn : news.length = n) (w : World) (h : Lib.IsBuilderF 224 5 B b bs w) (hg : w.heap[g]? = some (.cells cs 105 (0, 0)))
    (hnews : ∀ j u, news[j]? = some u → cs[o + j]? = some u) (h1n : ∀ u ∈ news, u.oneCell' = true) (hlen : bs.length + n ≤ 140737488355328) (hBw : B ≤ w.heap.size) :
    Calls Tryz.prog 295 #[.pointer (some ⟨b, 0, none⟩), .slice (some ⟨g, o, none⟩) n cap] w fun e w' => e = .returned (.tuple #[.int .i64 n, .nilIface]) ∧ (Lib.BuilderAtF 224 5 B b (.pointer (some ⟨b, 0, none⟩)) (bs ++ news) w' ∧ Below B w w' ∧ Lib.OthersKept 5 (some b) w w') := by
  obtain ⟨i0, hi, hz0, hz1, hz2⟩ := byteInfoW
  have HN := Lib.hid (And.intro hnews (And.intro h1n (And.intro hg hn)))
  have HC := Lib.hid (Any.Builder_copyCheck_k Go.Proofs.Tryz.bld240 Go.Proofs.Tryz.bld_Extra.toX72 B b bs w h)
  have HNe : Hid (g ≠ b) := Lib.hid (by
    rintro rfl
    rcases h with ⟨_, v, h1, _⟩ | ⟨_, v, h1, _⟩
    · rw [hg] at h1; injection h1 with h1; injection h1 with _ h1 _; exact absurd h1 (by decide)
    · rw [hg] at h1; injection h1 with h1; injection h1 with _ h1 _; exact absurd h1 (by decide))
  clear hnews h1n hg h hn
  go_enter Tryz.func295, Tryz.ntmps295
  go_wp2_with fail
  refine HC.out.mono ?_
  rintro e w1 ⟨rfl, h1, hb1, hk1⟩
  obtain ⟨hB, v, hbk, hown, hne⟩ := h1
  have c0 : w1.cell? ⟨b, 0, none⟩ = some (.pointer (some ⟨b, 0, none⟩)) := by rw [Lib.cell_of_heap hbk]; rfl
  have c1 : w1.cell? ⟨b, 1, none⟩ = some v := by rw [Lib.cell_of_heap hbk]; rfl
  have HG1 : Hid (∀ j u, news[j]? = some u → w1.cell? ((⟨g, o, none⟩ : Addr).add j) = some u) := Lib.hid fun j u hj => by
    have h2 := hk1 g _ HN.out.2.2.1 (fun e => HNe.out (by injection e)) (fun c fz e => by injection e with _ e _; cases e)
    have e : (⟨g, o, none⟩ : Addr).add j = ⟨g, o + j, none⟩ := by unfold Addr.add; split <;> simp_all
    rw [e]
    simp only [World.cell?, h2]
    exact HN.out.1 j u hj
  go_wp2_with (at_builtin; refine wpList_append_ownF _ rfl _ _ 58 rfl B 5 i0 (.int .u8 0) 1 1 Tryz.underlying58 hi hz0 hz1 hz2 rfl (by decide) _ _ _ rfl hown ⟨g, o, none⟩ n cap news rfl (by rw [Nat.mul_one]; exact HN.out.2.2.2) HG1.out HN.out.2.1 ?c3 ?c4 ?c5 ?_)
  case c3 => unfold maxLen; omega
  case c4 => omega
  case c5 => have := hb1.size; omega
  intro v' w2 hown' hgrow _
  have hlt : b < w1.heap.size := by
    rcases Nat.lt_or_ge b w1.heap.size with h' | h'
    · exact h'
    · simp [Array.getElem?_eq_none h'] at hbk
  have hb2 : w2.heap[b]? = some (.cells #[.pointer (some ⟨b, 0, none⟩), v] 224 (0, 0)) := by
    rw [hgrow.block b hlt (fun e => hne e.symm)]
    exact hbk
  have d0 : w2.cell? ⟨b, 0, none⟩ = some (.pointer (some ⟨b, 0, none⟩)) := by rw [Lib.cell_of_heap hb2]; rfl
  have d1 : w2.cell? ⟨b, 1, none⟩ = some v := by rw [Lib.cell_of_heap hb2]; rfl
  have f1 : w2.frozen? ⟨b, 1, none⟩ = false := Lib.frozen_of_heap hb2 1
  obtain ⟨g', cap', rfl⟩ : ∃ g' cap', v' = .slice g' (bs.length + n) cap' := by
    rcases hown'.2 with ⟨h0, h00⟩ | ⟨g', cap', cur, fz, hv, _⟩
    · exact ⟨none, 0, by rw [h0, h00]⟩
    · exact ⟨_, cap', hv⟩
  have HR : Hid (Lib.BuilderAtF 224 5 B b (.pointer (some ⟨b, 0, none⟩)) (bs ++ news) (w2.setCell ⟨b, 1, none⟩ (.slice g' (bs.length + n) cap'))) := Lib.hid (Lib.BuilderAtF.put (T := 224) (e := 5) hB hb2 (bs' := bs ++ news) (by have := hown'; rw [← HN.out.2.2.2] at this; simpa [HN.out.2.2.2] using hown') Go.Proofs.Tryz.bld_Extra.neB5)
  have HR2 : Hid (Below B w (w2.setCell ⟨b, 1, none⟩ (.slice g' (bs.length + n) cap'))) := Lib.hid ((hb1.grown hgrow (by have := hb1.size; omega) (fun k hk => (hown.lt k hk).1)).setCell (p := ⟨b, 1, none⟩) hB _)
  have HR3 : Hid (Lib.OthersKept 5 (some b) w (w2.setCell ⟨b, 1, none⟩ (.slice g' (bs.length + n) cap'))) := Lib.hid ((hk1.grown hgrow (Lib.ownsRowF_kind hown)).setCell ⟨b, 1, none⟩ rfl _)
  clear hown' hgrow hown hk1 hb1
  go_wp2
  go_ret2
  exact ⟨rfl, HR.out, HR2.out, HR3.out⟩

/-- The builder as a writer. -/
def bldWr : Wr := { T := 222, fb := 191, fs := 296, fw := 295, Is := fun B b l w => Lib.IsBuilderF 224 5 B b (Lib.byteCells l) w }
theorem bldF_kept {B b : Nat} {p : Value} {bs : List Value} {W W' : World} (h : Lib.BuilderAtF 224 5 B b p bs W) (hk : Lib.OthersKept 105 none W W') : Lib.BuilderAtF 224 5 B b p bs W' := by
  obtain ⟨h1, v, h2, ⟨hl, h3⟩, h4⟩ := h
  refine ⟨h1, v, hk b _ h2 (by simp) (fun c fz e => by injection e with _ e _; cases e), ⟨hl, ?_⟩, h4⟩
  rcases h3 with h3 | ⟨g, cap, cur, fz, hv, hb, hg, hr⟩
  · exact .inl h3
  · exact .inr ⟨g, cap, cur, fz, hv, hb, hk g _ hg (by simp) (fun c fz e => by injection e with _ e _; cases e), hr⟩
theorem bldWr_keeps : bldWr.Keeps := ⟨fun B b l W W' h hk => h.elim (fun x => .inl (bldF_kept x hk)) (fun x => .inr (bldF_kept x hk))⟩
theorem bldWr_writes : bldWr.Writes where
  meth := fun p w => by show (method 412 222 (.pointer p) "Write").run Tryz.prog w = .ok (295, .pointer p) w; kernel_rfl
  enter := fun args w => by show (callFunc 295 args).run Tryz.prog w = .ok (.enter 295 args) w; exact enters_of Tryz.func295 (by kernel_rfl) rfl args w
  write := fun B b eb o n cap l t cs w h he hn hc hl hB => by
    subst hn
    refine (bld_Write_k B b (Lib.byteCells l) eb o t.length cap cs (Lib.byteCells t) (by simp [Lib.byteCells]) w h he (fun j u hj => ?_) (fun u hu => ?_) (by simpa [Lib.byteCells] using hl) hB).mono fun e w' ⟨he, h1, h2, h3⟩ => ⟨he, .inr (by simpa [Lib.byteCells] using h1), h2, h3⟩
    · simp only [Lib.byteCells, List.getElem?_map, Option.map_eq_some_iff] at hj
      obtain ⟨c, hc2, rfl⟩ := hj
      obtain ⟨hlt, rfl⟩ := List.getElem?_eq_some_iff.1 hc2
      exact hc j hlt
    · simp only [Lib.byteCells, List.mem_map] at hu
      obtain ⟨c, _, rfl⟩ := hu
      rfl
theorem bldWr_strs : bldWr.Strs where
  meth := fun p w => by show (method 412 222 (.pointer p) "WriteString").run Tryz.prog w = .ok (296, .pointer p) w; kernel_rfl
  enter := fun args w => by show (callFunc 296 args).run Tryz.prog w = .ok (.enter 296 args) w; exact enters_of Tryz.func296 (by kernel_rfl) rfl args w
  write := fun B b l s w h hl hB => (Go.Proofs.Tryz.bld_WriteString_k B b (Lib.byteCells l) s w h (by simpa [Lib.byteCells] using hl) hB).mono fun e w' ⟨he, h1, h2, h3⟩ => ⟨he, .inr (by simpa [Lib.byteCells, Lib.strCells] using h1), h2, h3⟩
theorem bldWr_bytes : bldWr.Bytes where
  meth := fun p w => by show (method 412 222 (.pointer p) "WriteByte").run Tryz.prog w = .ok (191, .pointer p) w; kernel_rfl
  enter := fun args w => by show (callFunc 191 args).run Tryz.prog w = .ok (.enter 191 args) w; exact enters_of Tryz.func191 (by kernel_rfl) rfl args w
  write := fun B b l c w h hl hB => (Go.Proofs.Tryz.bld_WriteByte_k B b (Lib.byteCells l) c.toNat w h (by simpa [Lib.byteCells] using hl) hB).mono fun e w' ⟨he, h1, h2, h3⟩ => ⟨he, .inr (by simpa [Lib.byteCells] using h1), h2, h3⟩
end Go.Proofs.YtjpcdbopioblaaaGreatDoor

/-
  DERIVED: THE SHELF's CONTRACTS AT THIS DUMP, IN PLAIN WORDS (tools/lay-plain.mjs out of 'TryzBufLayTry.lean', which tools/lay-shelf.mjs wrote): THE SAME DECLARATIONS UNDER THE SAME NAMES: 'import', 'namespace', 'open', 'def', 'theorem' AND NOTHING ELSE: no command of the shelf's: FOR A HAND-IN. Each laying: the table of numbers ('.._ren') and one theorem, a field a fact of the dump's own or the kernel's comparison; each contract: ONE APPLICATION.
-/
namespace Go.Proofs
open Go.Shelf
def Tryz.buf178_ren : Go.Shelf.Ren := ⟨fun | 178 => 280 | 251 => 281 | 252 => 282 | 181 => 283 | 184 => 276 | 290 => 284 | 324 => 285 | n => n, fun | 130 => 101 | 9 => 9 | 3 => 3 | 75 => 60 | 0 => 0 | 93 => 99 | 91 => 97 | 131 => 81 | 4 => 4 | 37 => 58 | 20 => 20 | 80 => 155 | 5 => 5 | n => n, fun | 14 => 5 | n => n⟩
theorem Tryz.buf178 : Go.Proofs.LaysM.n178 Tryz.prog Tryz.buf178_ren := {
  mixed := by kernel_rfl
  f178 := Tryz.func280.trans (congrArg some (by kernel_rfl))
  f181 := Tryz.func283.trans (congrArg some (by kernel_rfl))
  f184 := Tryz.func276.trans (congrArg some (by kernel_rfl))
  f251 := Tryz.func281.trans (congrArg some (by kernel_rfl))
  f252 := Tryz.func282.trans (congrArg some (by kernel_rfl))
  f290 := Tryz.func284.trans (congrArg some (by kernel_rfl))
  f324 := Tryz.func285.trans (congrArg some (by kernel_rfl))
  t0 := Tryz.underlying0
  a0 := Tryz.isAgg0
  z0 := Tryz.sizeOf0
  v0 := Tryz.zeroValue0
  t3 := Tryz.underlying3
  a3 := Tryz.isAgg3
  z3 := Tryz.sizeOf3
  v3 := Tryz.zeroValue3
  t4 := Tryz.underlying4
  a4 := Tryz.isAgg4
  z4 := Tryz.sizeOf4
  v4 := Tryz.zeroValue4
  t9 := Tryz.underlying9
  a9 := Tryz.isAgg9
  z9 := Tryz.sizeOf9
  v9 := Tryz.zeroValue9
  t20 := Tryz.underlying20
  a20 := Tryz.isAgg20
  z20 := Tryz.sizeOf20
  v20 := Tryz.zeroValue20
  t37 := Tryz.underlying58
  a37 := Tryz.isAgg58
  z37 := Tryz.sizeOf58
  v37 := Tryz.zeroValue58
  t75 := Tryz.underlying60
  a75 := Tryz.isAgg60
  z75 := Tryz.sizeOf60
  v75 := Tryz.zeroValue60
  t91 := Tryz.underlying97
  a91 := Tryz.isAgg97
  z91 := Tryz.sizeOf97
  v91 := Tryz.zeroValue97
  t93 := Tryz.underlying99
  a93 := Tryz.isAgg99
  z93 := Tryz.sizeOf99
  v93 := Tryz.zeroValue99
  t130 := Tryz.underlying101
  a130 := Tryz.isAgg101
  z130 := Tryz.sizeOf101
  v130 := Tryz.zeroValue101
  t131 := Tryz.underlying81
  a131 := Tryz.isAgg81
  z131 := Tryz.sizeOf81
  v131 := Tryz.zeroValue81
  g14 := by kernel_rfl
  t5 := Tryz.underlying5
  a5 := Tryz.isAgg5
  z5 := Tryz.sizeOf5
  v5 := Tryz.zeroValue5
  t80 := Tryz.underlying155
  a80 := Tryz.isAgg155
  z80 := Tryz.sizeOf155
  v80 := Tryz.zeroValue155
  i0 := by kernel_rfl
  i3 := by kernel_rfl
  i4 := by kernel_rfl
  i5 := by kernel_rfl
  i9 := by kernel_rfl
  i20 := by kernel_rfl
  i37 := by kernel_rfl
  i75 := by kernel_rfl
  i80 := by kernel_rfl
  i91 := by kernel_rfl
  i93 := by kernel_rfl
  i130 := by kernel_rfl
  i131 := by kernel_rfl
  m14 := by kernel_rfl }
def Tryz.buf179_ren : Go.Shelf.Ren := ⟨fun | 179 => 279 | 251 => 281 | 252 => 282 | 181 => 283 | 184 => 276 | 290 => 284 | 324 => 285 | n => n, fun | 130 => 101 | 5 => 5 | 75 => 60 | 0 => 0 | 93 => 99 | 91 => 97 | 3 => 3 | 131 => 81 | 4 => 4 | 37 => 58 | 20 => 20 | 80 => 155 | 9 => 9 | n => n, fun | 14 => 5 | n => n⟩
theorem Tryz.buf179 : Go.Proofs.LaysM.n179 Tryz.prog Tryz.buf179_ren := {
  mixed := by kernel_rfl
  f179 := Tryz.func279.trans (congrArg some (by kernel_rfl))
  f181 := Tryz.func283.trans (congrArg some (by kernel_rfl))
  f184 := Tryz.func276.trans (congrArg some (by kernel_rfl))
  f251 := Tryz.func281.trans (congrArg some (by kernel_rfl))
  f252 := Tryz.func282.trans (congrArg some (by kernel_rfl))
  f290 := Tryz.func284.trans (congrArg some (by kernel_rfl))
  f324 := Tryz.func285.trans (congrArg some (by kernel_rfl))
  t0 := Tryz.underlying0
  a0 := Tryz.isAgg0
  z0 := Tryz.sizeOf0
  v0 := Tryz.zeroValue0
  t3 := Tryz.underlying3
  a3 := Tryz.isAgg3
  z3 := Tryz.sizeOf3
  v3 := Tryz.zeroValue3
  t4 := Tryz.underlying4
  a4 := Tryz.isAgg4
  z4 := Tryz.sizeOf4
  v4 := Tryz.zeroValue4
  t5 := Tryz.underlying5
  a5 := Tryz.isAgg5
  z5 := Tryz.sizeOf5
  v5 := Tryz.zeroValue5
  t20 := Tryz.underlying20
  a20 := Tryz.isAgg20
  z20 := Tryz.sizeOf20
  v20 := Tryz.zeroValue20
  t37 := Tryz.underlying58
  a37 := Tryz.isAgg58
  z37 := Tryz.sizeOf58
  v37 := Tryz.zeroValue58
  t75 := Tryz.underlying60
  a75 := Tryz.isAgg60
  z75 := Tryz.sizeOf60
  v75 := Tryz.zeroValue60
  t91 := Tryz.underlying97
  a91 := Tryz.isAgg97
  z91 := Tryz.sizeOf97
  v91 := Tryz.zeroValue97
  t93 := Tryz.underlying99
  a93 := Tryz.isAgg99
  z93 := Tryz.sizeOf99
  v93 := Tryz.zeroValue99
  t130 := Tryz.underlying101
  a130 := Tryz.isAgg101
  z130 := Tryz.sizeOf101
  v130 := Tryz.zeroValue101
  t131 := Tryz.underlying81
  a131 := Tryz.isAgg81
  z131 := Tryz.sizeOf81
  v131 := Tryz.zeroValue81
  g14 := by kernel_rfl
  t9 := Tryz.underlying9
  a9 := Tryz.isAgg9
  z9 := Tryz.sizeOf9
  v9 := Tryz.zeroValue9
  t80 := Tryz.underlying155
  a80 := Tryz.isAgg155
  z80 := Tryz.sizeOf155
  v80 := Tryz.zeroValue155
  i0 := by kernel_rfl
  i3 := by kernel_rfl
  i4 := by kernel_rfl
  i5 := by kernel_rfl
  i9 := by kernel_rfl
  i20 := by kernel_rfl
  i37 := by kernel_rfl
  i75 := by kernel_rfl
  i80 := by kernel_rfl
  i91 := by kernel_rfl
  i93 := by kernel_rfl
  i130 := by kernel_rfl
  i131 := by kernel_rfl
  m14 := by kernel_rfl }
def Tryz.buf180_ren : Go.Shelf.Ren := ⟨fun | 180 => 278 | 251 => 281 | 252 => 282 | 181 => 283 | 184 => 276 | 290 => 284 | 324 => 285 | n => n, fun | 130 => 101 | 37 => 58 | 3 => 3 | 75 => 60 | 0 => 0 | 93 => 99 | 91 => 97 | 131 => 81 | 4 => 4 | 20 => 20 | 5 => 5 | 80 => 155 | 9 => 9 | n => n, fun | 14 => 5 | n => n⟩
theorem Tryz.buf180 : Go.Proofs.LaysM.n180 Tryz.prog Tryz.buf180_ren := {
  mixed := by kernel_rfl
  f180 := Tryz.func278.trans (congrArg some (by kernel_rfl))
  f181 := Tryz.func283.trans (congrArg some (by kernel_rfl))
  f184 := Tryz.func276.trans (congrArg some (by kernel_rfl))
  f251 := Tryz.func281.trans (congrArg some (by kernel_rfl))
  f252 := Tryz.func282.trans (congrArg some (by kernel_rfl))
  f290 := Tryz.func284.trans (congrArg some (by kernel_rfl))
  f324 := Tryz.func285.trans (congrArg some (by kernel_rfl))
  t0 := Tryz.underlying0
  a0 := Tryz.isAgg0
  z0 := Tryz.sizeOf0
  v0 := Tryz.zeroValue0
  t3 := Tryz.underlying3
  a3 := Tryz.isAgg3
  z3 := Tryz.sizeOf3
  v3 := Tryz.zeroValue3
  t4 := Tryz.underlying4
  a4 := Tryz.isAgg4
  z4 := Tryz.sizeOf4
  v4 := Tryz.zeroValue4
  t20 := Tryz.underlying20
  a20 := Tryz.isAgg20
  z20 := Tryz.sizeOf20
  v20 := Tryz.zeroValue20
  t37 := Tryz.underlying58
  a37 := Tryz.isAgg58
  z37 := Tryz.sizeOf58
  v37 := Tryz.zeroValue58
  t75 := Tryz.underlying60
  a75 := Tryz.isAgg60
  z75 := Tryz.sizeOf60
  v75 := Tryz.zeroValue60
  t91 := Tryz.underlying97
  a91 := Tryz.isAgg97
  z91 := Tryz.sizeOf97
  v91 := Tryz.zeroValue97
  t93 := Tryz.underlying99
  a93 := Tryz.isAgg99
  z93 := Tryz.sizeOf99
  v93 := Tryz.zeroValue99
  t130 := Tryz.underlying101
  a130 := Tryz.isAgg101
  z130 := Tryz.sizeOf101
  v130 := Tryz.zeroValue101
  t131 := Tryz.underlying81
  a131 := Tryz.isAgg81
  z131 := Tryz.sizeOf81
  v131 := Tryz.zeroValue81
  g14 := by kernel_rfl
  t5 := Tryz.underlying5
  a5 := Tryz.isAgg5
  z5 := Tryz.sizeOf5
  v5 := Tryz.zeroValue5
  t9 := Tryz.underlying9
  a9 := Tryz.isAgg9
  z9 := Tryz.sizeOf9
  v9 := Tryz.zeroValue9
  t80 := Tryz.underlying155
  a80 := Tryz.isAgg155
  z80 := Tryz.sizeOf155
  v80 := Tryz.zeroValue155
  i0 := by kernel_rfl
  i3 := by kernel_rfl
  i4 := by kernel_rfl
  i5 := by kernel_rfl
  i9 := by kernel_rfl
  i20 := by kernel_rfl
  i37 := by kernel_rfl
  i75 := by kernel_rfl
  i80 := by kernel_rfl
  i91 := by kernel_rfl
  i93 := by kernel_rfl
  i130 := by kernel_rfl
  i131 := by kernel_rfl
  m14 := by kernel_rfl }
def Tryz.buf183_ren : Go.Shelf.Ren := ⟨fun | 183 => 78 | n => n, fun | 130 => 101 | 37 => 58 | 0 => 0 | 93 => 99 | 3 => 3 | 5 => 5 | 91 => 97 | n => n, fun | n => n⟩
theorem Tryz.buf183 : Go.Proofs.LaysM.n183 Tryz.prog Tryz.buf183_ren := {
  mixed := by kernel_rfl
  f183 := Tryz.func78.trans (congrArg some (by kernel_rfl))
  t0 := Tryz.underlying0
  a0 := Tryz.isAgg0
  z0 := Tryz.sizeOf0
  v0 := Tryz.zeroValue0
  t3 := Tryz.underlying3
  a3 := Tryz.isAgg3
  z3 := Tryz.sizeOf3
  v3 := Tryz.zeroValue3
  t37 := Tryz.underlying58
  a37 := Tryz.isAgg58
  z37 := Tryz.sizeOf58
  v37 := Tryz.zeroValue58
  t93 := Tryz.underlying99
  a93 := Tryz.isAgg99
  z93 := Tryz.sizeOf99
  v93 := Tryz.zeroValue99
  t130 := Tryz.underlying101
  a130 := Tryz.isAgg101
  z130 := Tryz.sizeOf101
  v130 := Tryz.zeroValue101
  t5 := Tryz.underlying5
  a5 := Tryz.isAgg5
  z5 := Tryz.sizeOf5
  v5 := Tryz.zeroValue5
  t91 := Tryz.underlying97
  a91 := Tryz.isAgg97
  z91 := Tryz.sizeOf97
  v91 := Tryz.zeroValue97
  i0 := by kernel_rfl
  i3 := by kernel_rfl
  i5 := by kernel_rfl
  i37 := by kernel_rfl
  i91 := by kernel_rfl
  i93 := by kernel_rfl
  i130 := by kernel_rfl }
end Go.Proofs

/- bytes.Buffer as a writer of the JSON encoder's. -/
namespace Go.Proofs.YtjpcdbopioblaaaGreatDoor
open Go.RowKit

theorem one_byteCells (l : List UInt8) : ∀ v ∈ Lib.byteCells l, v.oneCell' = true := fun u hu => by
  simp only [Lib.byteCells, List.mem_map] at hu
  obtain ⟨c, _, rfl⟩ := hu
  rfl
/-- The buffer as a writer. -/
def bufWr : Wr := { T := 101, fb := 279, fs := 280, fw := 278, Is := fun B b l w => Lib.IsBuffer 99 5 B b (Lib.byteCells l) w }
theorem bufWr_keeps : bufWr.Keeps := ⟨fun B b l W W' h hk => by
  obtain ⟨h1, v, lr, h2, ⟨hl, h3⟩, h4⟩ := h
  refine ⟨h1, v, lr, hk b _ h2 (by simp) (fun c fz e => by injection e with _ e _; cases e), ⟨hl, ?_⟩, h4⟩
  rcases h3 with h3 | ⟨g, cap, cur, hv, hb, hg, hr⟩
  · exact .inl h3
  · exact .inr ⟨g, cap, cur, hv, hb, hk g _ hg (by simp) (fun c fz e => by injection e with _ e _; cases e), hr⟩⟩
theorem bufWr_writes : bufWr.Writes where
  meth := fun p w => by show (method 412 101 (.pointer p) "Write").run Tryz.prog w = .ok (278, .pointer p) w; kernel_rfl
  enter := fun args w => by show (callFunc 278 args).run Tryz.prog w = .ok (.enter 278 args) w; exact enters_of Tryz.func278 (by kernel_rfl) rfl args w
  write := fun B b eb o n cap l t cs w h he hn hc hl hB => by
    subst hn
    have hne : eb ≠ b := by
      rintro rfl
      obtain ⟨_, v, lr, h2, _⟩ := h
      rw [he] at h2
      injection h2 with h2; injection h2 with _ h2 _; exact absurd h2 (by decide)
    have H := Any.Buffer_Write_any Go.Proofs.Tryz.buf180 B b (Lib.byteCells l) (Lib.byteCells t) ⟨eb, o, none⟩ t.length cap w h hB (one_byteCells l) (by simp [Lib.byteCells]) hne (fun j u hj => by
      simp only [Lib.byteCells, List.getElem?_map, Option.map_eq_some_iff] at hj
      obtain ⟨c, hc2, rfl⟩ := hj
      obtain ⟨hlt, rfl⟩ := List.getElem?_eq_some_iff.1 hc2
      have e : (⟨eb, o, none⟩ : Addr).add j = ⟨eb, o + j, none⟩ := by unfold Addr.add; split <;> simp_all
      rw [e]
      simp only [World.cell?, he]
      exact hc j hlt) (one_byteCells t) (by simpa [Lib.byteCells] using hl)
    change Calls Tryz.prog 278 _ _ _ at H
    exact H.mono fun e w' ⟨he, h1, h2, h3⟩ => ⟨he, by have h1' : Lib.IsBuffer 99 5 B b (Lib.byteCells l ++ Lib.byteCells t) w' := h1; show Lib.IsBuffer _ _ _ _ _ _; simpa [Lib.byteCells] using h1', h2, h3⟩
theorem bufWr_strs : bufWr.Strs where
  meth := fun p w => by show (method 412 101 (.pointer p) "WriteString").run Tryz.prog w = .ok (280, .pointer p) w; kernel_rfl
  enter := fun args w => by show (callFunc 280 args).run Tryz.prog w = .ok (.enter 280 args) w; exact enters_of Tryz.func280 (by kernel_rfl) rfl args w
  write := fun B b l s w h hl hB => by
    have H := Any.Buffer_WriteString_k Go.Proofs.Tryz.buf178 B b (Lib.byteCells l) s w h hB (one_byteCells l) (by simpa [Lib.byteCells] using hl)
    change Calls Tryz.prog 280 _ _ _ at H
    exact H.mono fun e w' ⟨he, h1, h2, h3⟩ => ⟨he, by have h1' : Lib.IsBuffer 99 5 B b (Lib.byteCells l ++ Lib.byteCells s.data.toList) w' := h1; show Lib.IsBuffer _ _ _ _ _ _; simpa [Lib.byteCells] using h1', h2, h3⟩
theorem bufWr_bytes : bufWr.Bytes where
  meth := fun p w => by show (method 412 101 (.pointer p) "WriteByte").run Tryz.prog w = .ok (279, .pointer p) w; kernel_rfl
  enter := fun args w => by show (callFunc 279 args).run Tryz.prog w = .ok (.enter 279 args) w; exact enters_of Tryz.func279 (by kernel_rfl) rfl args w
  write := fun B b l c w h hl hB => by
    have H := Any.Buffer_WriteByte_k Go.Proofs.Tryz.buf179 B b (Lib.byteCells l) c.toNat w h hB (one_byteCells l) (by simpa [Lib.byteCells] using hl)
    change Calls Tryz.prog 279 _ _ _ at H
    exact H.mono fun e w' ⟨he, h1, h2, h3⟩ => ⟨he, by have h1' : Lib.IsBuffer 99 5 B b (Lib.byteCells l ++ [.int .u8 c.toNat]) w' := h1; show Lib.IsBuffer _ _ _ _ _ _; simpa [Lib.byteCells] using h1', h2, h3⟩
/-- Its bytes handed over. -/
theorem bufBytes_any (B b : Nat) (l : List UInt8) (w : World) (h : bufWr.Is B b l w) :
    Calls Tryz.prog 78 #[.pointer (some ⟨b, 0, none⟩)] w fun e w' => ∃ v, e = .returned v ∧ w'.ownsRow B 5 1 v l.length (Lib.byteCells l) ∧ ∃ n, w' = w.drewN n := by
  have H := Any.Buffer_Bytes Go.Proofs.Tryz.buf183 B b (Lib.byteCells l) w h
  change Calls Tryz.prog 78 _ _ _ at H
  rw [show (Lib.byteCells l).length = l.length by simp [Lib.byteCells]] at H
  exact H
end Go.Proofs.YtjpcdbopioblaaaGreatDoor

/- A slice of bytes of the call's own: a string behind it, and the string that it is. -/
namespace Go.Proofs.YtjpcdbopioblaaaGreatDoor
open Go.RowKit

/-- The slice is the call's own and holds these bytes. -/
def BRow (base : Nat) (v : Value) (l : List UInt8) (w : World) : Prop := w.ownsRow base 5 1 v l.length (Lib.byteCells l)
theorem BRow.nil (base : Nat) (w : World) : BRow base (.slice none 0 0) [] w := World.ownsRow_nil w base _ 1
theorem BRow.shape {base : Nat} {v : Value} {l : List UInt8} {w : World} (h : BRow base v l w) : ∃ a c, v = .slice a l.length c := by
  rcases h.2 with ⟨e, h0⟩ | ⟨g, cp, cu, e, _⟩
  · exact ⟨none, 0, by rw [e, h0]⟩
  · exact ⟨_, _, e⟩
theorem BRow.drewN {base : Nat} {v : Value} {l : List UInt8} {w : World} (h : BRow base v l w) (n : Nat) : BRow base v l (w.drewN n) := h
set_option maxRecDepth 100000 in
theorem app_str {ops : Array Oper} {rest : List Oper} {o : Oper} {a : Act} {Q : Exit → Act → World → Prop} {w : World} (hgd : o.guard = none) (sl x : Operand)
    (ho : o.op = .call { callee := .builtin .append, args := #[sl, x], argTypes := #[58, 9] }) (base : Nat) (v : Value) (l : List UInt8) (hs : a.eval sl = v) (hown : BRow base v l w) (s : ByteArray) (hx : a.eval x = .string s)
    (hb : l.length + s.size ≤ 140737488355328) (hbase : base ≤ w.heap.size)
    (h : ∀ v' w', BRow base v' (l ++ s.data.toList) w' → Below base w w' → wpList Tryz.prog ops Q rest (a.put o.dst v') w') : wpList Tryz.prog ops Q (o :: rest) a w := by
  have hinfo : (Tryz.prog.info? 5).map (fun i => (i.zero, i.size, i.bytes)) = some (some (Value.int IntKind.u8 0), 1, 1) := by kernel_rfl
  obtain ⟨i, hi, he⟩ := Option.map_eq_some_iff.1 hinfo
  simp only [Prod.mk.injEq] at he
  refine Lib.wpList_append_own_string w hgd sl x _ _ ho base 5 i Tryz.underlying58 Tryz.underlying9 hi he.1 he.2.1 he.2.2 v l.length _ hs hown s hx (by unfold maxLen; omega) hb hbase ?_
  intro v' w' hown' hg _
  have hl : (l ++ s.data.toList).length = l.length + s.size := by rw [List.length_append, Array.length_toList]; rfl
  have hr : BRow base v' (l ++ s.data.toList) w' := by
    unfold BRow
    rw [hl]
    have e : Lib.byteCells (l ++ s.data.toList) = Lib.byteCells l ++ Lib.strCells s := by simp [Lib.byteCells, Lib.strCells]
    rw [e]
    exact hown'
  exact h v' w' hr ((Below.refl base w).grown hg hbase (fun g e => (hown.lt g e).1))

theorem wpList_convert_run {P : Program} {ops : Array Oper} {rest : List Oper} {o : Oper} {a : Act} {Q : Exit → Act → World → Prop} {w : World} (hgd : o.guard = none) (x : Operand) (t u : TypeId) (ho : o.op = .convert t u x) (v r : Value) (hx : a.eval x = v)
    (hr : (convert t u v).run P w = .ok r w) (h : wpList P ops Q rest (a.put o.dst r) w) : wpList P ops Q (o :: rest) a w := by
  refine wpList_plain hgd fun K hK => ?_
  unfold Oper.wp execOp
  simp only [ho, Sem.run_bind, Sem.run_pure, Result.andThen_ok, hx, hr]
  exact hK _ _ h

theorem row_text {base : Nat} {v : Value} {l : List UInt8} {w : World} (h : BRow base v l w) : (convert 58 9 v).run Tryz.prog w = .ok (.string ⟨l.toArray⟩) w := by
  obtain ⟨hl, ⟨rfl, h0⟩ | ⟨g, cap, cur, rfl, hb, hg, hn, hc, hcs, htk⟩⟩ := h
  · have : l = [] := List.eq_nil_of_length_eq_zero h0
    subst this
    exact Lib.run_convert_nil_bytes w _ _ 5 0 Tryz.underlying58 Tryz.underlying5 Tryz.underlying9
  · refine run_convert_bytes_back w _ _ 5 ⟨g, 0, none⟩ cap l Tryz.underlying58 Tryz.underlying5 Tryz.underlying9 (fun j hj => ?_)
    have h1 : (cur.toList.take (l.length * 1))[j]? = some (.int .u8 (l[j].toNat : Int)) := by
      rw [htk]; simp [Lib.byteCells, List.getElem?_eq_getElem hj]
    rw [List.getElem?_take_of_lt (by omega)] at h1
    have e : (⟨g, 0, none⟩ : Addr).add j = ⟨g, j, none⟩ := by unfold Addr.add; split <;> simp_all
    rw [e]
    simp only [World.cell?, hg]
    simpa using h1
end Go.Proofs.YtjpcdbopioblaaaGreatDoor
