/- Texts of this proof laid together by a program: BuilderL, BuilderW, ByteRow, HtmlPlain, Replace, Lay. -/
import Derived.Test.YtjpcdbopioblaaaGreatDoorMh1
import Derived.Test.YtjpcdbopioblaaaGreatDoorMh4
import Derived.Shelf.Strings.Builder1
import Derived.Shelf.Strings.BuilderF
import Derived.Shelf.Strings.BuilderK
import Derived.Test.YtjpcdbopioblaaaGreatDoorProg
import Derived.Lib.FrozenHead2
import Derived.Lib.OthersKept
import Derived.Lib.Hide
import Derived.WalkKit
import Derived.Lib.AppendStr
import Derived.Lib.BufferRead
import Derived.Laws.IdiomStrings
import Derived.Deep.QuietTactic
import Derived.BigQuiet
import Derived.LaidHandle
import Derived.Handed
import Derived.MakeChecks
/- strings.Builder: the library's contracts on copyCheck, WriteByte, WriteString and String at this dump, laid by hand (the laying command falls at the types that only a refused arm names). -/
namespace Go.Proofs
open Go.Shelf
def Tryz.bld_ren : Go.Shelf.Ren := ⟨fun | 166 => 296 | 167 => 191 | 169 => 192 | 240 => 226 | 276 => 251 | n => n, fun | 0 => 0 | 3 => 3 | 4 => 4 | 5 => 5 | 9 => 9 | 20 => 20 | 37 => 58 | 70 => 222 | 72 => 224 | 75 => 60 | 80 => 155 | 127 => 257 | 164 => 205 | n => n, fun | n => n⟩
theorem Tryz.bld240 : Go.Proofs.Lays.n240 Tryz.prog Tryz.bld_ren := {
  mixed := by kernel_rfl
  f240 := Tryz.func226.trans (congrArg some (by kernel_rfl))
  f276 := Tryz.func251.trans (congrArg some (by kernel_rfl))
  t0 := Tryz.underlying0
  a0 := Tryz.isAgg0
  z0 := Tryz.sizeOf0
  v0 := Tryz.zeroValue0
  t4 := Tryz.underlying4
  a4 := Tryz.isAgg4
  z4 := Tryz.sizeOf4
  v4 := Tryz.zeroValue4
  t9 := Tryz.underlying9
  a9 := Tryz.isAgg9
  z9 := Tryz.sizeOf9
  v9 := Tryz.zeroValue9
  t20 := Tryz.underlying20
  a20 := Tryz.isAgg20
  z20 := Tryz.sizeOf20
  v20 := Tryz.zeroValue20
  t70 := Tryz.underlying222
  a70 := Tryz.isAgg222
  z70 := Tryz.sizeOf222
  v70 := Tryz.zeroValue222
  t72 := Tryz.underlying224
  a72 := Tryz.isAgg224
  z72 := Tryz.sizeOf224
  v72 := Tryz.zeroValue224
  t164 := Tryz.underlying205
  a164 := Tryz.isAgg205
  z164 := Tryz.sizeOf205
  v164 := Tryz.zeroValue205 }
theorem Tryz.bld167 : Go.Proofs.Lays.n167 Tryz.prog Tryz.bld_ren := {
  mixed := by kernel_rfl
  f167 := Tryz.func191.trans (congrArg some (by kernel_rfl))
  f240 := Tryz.func226.trans (congrArg some (by kernel_rfl))
  f276 := Tryz.func251.trans (congrArg some (by kernel_rfl))
  t0 := Tryz.underlying0
  a0 := Tryz.isAgg0
  z0 := Tryz.sizeOf0
  v0 := Tryz.zeroValue0
  t4 := Tryz.underlying4
  a4 := Tryz.isAgg4
  z4 := Tryz.sizeOf4
  v4 := Tryz.zeroValue4
  t5 := Tryz.underlying5
  a5 := Tryz.isAgg5
  z5 := Tryz.sizeOf5
  v5 := Tryz.zeroValue5
  t9 := Tryz.underlying9
  a9 := Tryz.isAgg9
  z9 := Tryz.sizeOf9
  v9 := Tryz.zeroValue9
  t20 := Tryz.underlying20
  a20 := Tryz.isAgg20
  z20 := Tryz.sizeOf20
  v20 := Tryz.zeroValue20
  t37 := Tryz.underlying58
  a37 := Tryz.isAgg58
  z37 := Tryz.sizeOf58
  v37 := Tryz.zeroValue58
  t70 := Tryz.underlying222
  a70 := Tryz.isAgg222
  z70 := Tryz.sizeOf222
  v70 := Tryz.zeroValue222
  t72 := Tryz.underlying224
  a72 := Tryz.isAgg224
  z72 := Tryz.sizeOf224
  v72 := Tryz.zeroValue224
  t75 := Tryz.underlying60
  a75 := Tryz.isAgg60
  z75 := Tryz.sizeOf60
  v75 := Tryz.zeroValue60
  t164 := Tryz.underlying205
  a164 := Tryz.isAgg205
  z164 := Tryz.sizeOf205
  v164 := Tryz.zeroValue205 }
theorem Tryz.bld166 : Go.Proofs.Lays.n166 Tryz.prog Tryz.bld_ren := {
  mixed := by kernel_rfl
  f166 := Tryz.func296.trans (congrArg some (by kernel_rfl))
  f240 := Tryz.func226.trans (congrArg some (by kernel_rfl))
  f276 := Tryz.func251.trans (congrArg some (by kernel_rfl))
  t0 := Tryz.underlying0
  a0 := Tryz.isAgg0
  z0 := Tryz.sizeOf0
  v0 := Tryz.zeroValue0
  t3 := Tryz.underlying3
  a3 := Tryz.isAgg3
  z3 := Tryz.sizeOf3
  v3 := Tryz.zeroValue3
  t4 := Tryz.underlying4
  a4 := Tryz.isAgg4
  z4 := Tryz.sizeOf4
  v4 := Tryz.zeroValue4
  t9 := Tryz.underlying9
  a9 := Tryz.isAgg9
  z9 := Tryz.sizeOf9
  v9 := Tryz.zeroValue9
  t20 := Tryz.underlying20
  a20 := Tryz.isAgg20
  z20 := Tryz.sizeOf20
  v20 := Tryz.zeroValue20
  t37 := Tryz.underlying58
  a37 := Tryz.isAgg58
  z37 := Tryz.sizeOf58
  v37 := Tryz.zeroValue58
  t70 := Tryz.underlying222
  a70 := Tryz.isAgg222
  z70 := Tryz.sizeOf222
  v70 := Tryz.zeroValue222
  t72 := Tryz.underlying224
  a72 := Tryz.isAgg224
  z72 := Tryz.sizeOf224
  v72 := Tryz.zeroValue224
  t75 := Tryz.underlying60
  a75 := Tryz.isAgg60
  z75 := Tryz.sizeOf60
  v75 := Tryz.zeroValue60
  t164 := Tryz.underlying205
  a164 := Tryz.isAgg205
  z164 := Tryz.sizeOf205
  v164 := Tryz.zeroValue205 }
theorem Tryz.bld169 : Go.Proofs.Lays.n169 Tryz.prog Tryz.bld_ren := {
  mixed := by kernel_rfl
  f169 := Tryz.func192.trans (congrArg some (by kernel_rfl))
  t0 := Tryz.underlying0
  a0 := Tryz.isAgg0
  z0 := Tryz.sizeOf0
  v0 := Tryz.zeroValue0
  t3 := Tryz.underlying3
  a3 := Tryz.isAgg3
  z3 := Tryz.sizeOf3
  v3 := Tryz.zeroValue3
  t9 := Tryz.underlying9
  a9 := Tryz.isAgg9
  z9 := Tryz.sizeOf9
  v9 := Tryz.zeroValue9
  t37 := Tryz.underlying58
  a37 := Tryz.isAgg58
  z37 := Tryz.sizeOf58
  v37 := Tryz.zeroValue58
  t70 := Tryz.underlying222
  a70 := Tryz.isAgg222
  z70 := Tryz.sizeOf222
  v70 := Tryz.zeroValue222
  t72 := Tryz.underlying224
  a72 := Tryz.isAgg224
  z72 := Tryz.sizeOf224
  v72 := Tryz.zeroValue224
  t127 := Tryz.underlying257
  a127 := Tryz.isAgg257
  z127 := Tryz.sizeOf257
  v127 := Tryz.zeroValue257 }
theorem Tryz.bld_Extra : Builder.Extra Tryz.prog Tryz.bld_ren := {
  sizeBuilder := by kernel_rfl
  liesBuilder := by kernel_rfl
  t5 := Tryz.underlying5
  a5 := Tryz.isAgg5
  z5 := Tryz.sizeOf5
  v5 := Tryz.zeroValue5
  infoByte := by kernel_rfl
  cellsByte := by kernel_rfl
  sizeByte := by kernel_rfl
  neB5 := by decide }
open Go.RowKit in
theorem Tryz.bld_WriteByte (B b : Nat) (bs : List Value) (c : Int) (w : World) (h : Lib.IsBuilder 224 5 B b bs w) (hlen : bs.length + 1 ≤ 140737488355328) (hBw : B ≤ w.heap.size) :
    Calls Tryz.prog 191 #[.pointer (some ⟨b, 0, none⟩), .int .u8 c] w fun e w' => e = .returned .nilIface ∧ (Lib.BuilderAt 224 5 B b (.pointer (some ⟨b, 0, none⟩)) (bs ++ [.int .u8 c]) w' ∧ Below B w w') := Any.Builder_WriteByte Tryz.bld167 Tryz.bld_Extra B b bs c w h hlen hBw
open Go.RowKit in
theorem Tryz.bld_WriteString (B b : Nat) (bs : List Value) (s : ByteArray) (w : World) (h : Lib.IsBuilder 224 5 B b bs w) (hlen : bs.length + s.size ≤ 140737488355328) (hBw : B ≤ w.heap.size) :
    Calls Tryz.prog 296 #[.pointer (some ⟨b, 0, none⟩), .string s] w fun e w' => e = .returned (.tuple #[.int .i64 s.size, .nilIface]) ∧ (Lib.BuilderAt 224 5 B b (.pointer (some ⟨b, 0, none⟩)) (bs ++ Lib.strCells s) w' ∧ Below B w w') := Any.Builder_WriteString Tryz.bld166 Tryz.bld_Extra B b bs s w h hlen hBw
open Go.RowKit in
theorem Tryz.bld_String (B b : Nat) (l : List UInt8) (w : World) (h : Lib.IsBuilder 224 5 B b (Lib.byteCells l) w) (hBw : B ≤ w.heap.size) :
    Calls Tryz.prog 192 #[.pointer (some ⟨b, 0, none⟩)] w fun e w' => e = .returned (.string ⟨l.toArray⟩) ∧ Below B w w' := Any.Builder_String_any Tryz.bld169 Tryz.bld_Extra B b l w h hBw
open Go.RowKit in
theorem Tryz.bld_WriteByte_k (B b : Nat) (bs : List Value) (c : Int) (w : World) (h : Lib.IsBuilderF 224 5 B b bs w) (hlen : bs.length + 1 ≤ 140737488355328) (hBw : B ≤ w.heap.size) :
    Calls Tryz.prog 191 #[.pointer (some ⟨b, 0, none⟩), .int .u8 c] w fun e w' => e = .returned .nilIface ∧ (Lib.BuilderAtF 224 5 B b (.pointer (some ⟨b, 0, none⟩)) (bs ++ [.int .u8 c]) w' ∧ Below B w w' ∧ Lib.OthersKept 5 (some b) w w') := Any.Builder_WriteByte_k Tryz.bld167 Tryz.bld_Extra B b bs c w h hlen hBw
open Go.RowKit in
theorem Tryz.bld_WriteString_k (B b : Nat) (bs : List Value) (s : ByteArray) (w : World) (h : Lib.IsBuilderF 224 5 B b bs w) (hlen : bs.length + s.size ≤ 140737488355328) (hBw : B ≤ w.heap.size) :
    Calls Tryz.prog 296 #[.pointer (some ⟨b, 0, none⟩), .string s] w fun e w' => e = .returned (.tuple #[.int .i64 s.size, .nilIface]) ∧ (Lib.BuilderAtF 224 5 B b (.pointer (some ⟨b, 0, none⟩)) (bs ++ Lib.strCells s) w' ∧ Below B w w' ∧ Lib.OthersKept 5 (some b) w w') := Any.Builder_WriteString_k Tryz.bld166 Tryz.bld_Extra B b bs s w h hlen hBw
open Go.RowKit in
theorem Tryz.bld_String_k (B b : Nat) (l : List UInt8) (w : World) (h : Lib.IsBuilderF 224 5 B b (Lib.byteCells l) w) (hBw : B ≤ w.heap.size) :
    Calls Tryz.prog 192 #[.pointer (some ⟨b, 0, none⟩)] w fun e w' => e = .returned (.string ⟨l.toArray⟩) ∧ (Lib.IsBuilderF 224 5 B b (Lib.byteCells l) w' ∧ Below B w w' ∧ Lib.OthersKept 5 (some b) w w') := Any.Builder_String_any_k Tryz.bld169 Tryz.bld_Extra B b l w h hBw
end Go.Proofs

/- strings.Builder as a writer of the JSON encoder's; (*strings.Builder).Write walked. -/
namespace Go.Proofs.YtjpcdbopioblaaaGreatDoor
open Go.RowKit

theorem byteInfoW : ∃ i : TypeInfo, Tryz.prog.info? 5 = some i ∧ i.zero = some (.int .u8 0) ∧ i.size = 1 ∧ i.bytes = 1 := by
  have hinfo : (Tryz.prog.info? 5).map (fun i => (i.zero, i.size, i.bytes)) = some (some (Value.int IntKind.u8 0), 1, 1) := by kernel_rfl
  obtain ⟨i, hi, he⟩ := Option.map_eq_some_iff.1 hinfo
  simp only [Prod.mk.injEq] at he
  exact ⟨i, hi, he.1, he.2.1, he.2.2⟩

set_option maxRecDepth 100000 in
set_option maxHeartbeats 1600000 in
theorem bld_Write_k (B b : Nat) (bs : List Value) (g o n cap : Nat) (cs : Array Value) (news : List Value) (hn : news.length = n) (w : World) (h : Lib.IsBuilderF 224 5 B b bs w) (hg : w.heap[g]? = some (.cells cs 105 (0, 0)))
    (hnews : ∀ j u, news[j]? = some u → cs[o + j]? = some u) (h1n : ∀ u ∈ news, u.oneCell' = true) (hlen : bs.length + n ≤ 140737488355328) (hBw : B ≤ w.heap.size) :
    Calls Tryz.prog 295 #[.pointer (some ⟨b, 0, none⟩), .slice (some ⟨g, o, none⟩) n cap] w fun e w' => e = .returned (.tuple #[.int .i64 n, .nilIface]) ∧ (Lib.BuilderAtF 224 5 B b (.pointer (some ⟨b, 0, none⟩)) (bs ++ news) w' ∧ Below B w w' ∧ Lib.OthersKept 5 (some b) w w') := by
  obtain ⟨i0, hi, hz0, hz1, hz2⟩ := byteInfoW
  have HN := Lib.hid (And.intro hnews (And.intro h1n (And.intro hg hn)))
  have HC := Lib.hid (Any.Builder_copyCheck_k Go.Proofs.Tryz.bld240 Go.Proofs.Tryz.bld_Extra.toX72 B b bs w h)
  have HNe : Hid (g ≠ b) := Lib.hid (by
    rintro rfl
    rcases h with ⟨_, v, h1, _⟩ | ⟨_, v, h1, _⟩
    · rw [hg] at h1; injection h1 with h1; injection h1 with _ h1 _; exact absurd h1 (by decide)
    · rw [hg] at h1; injection h1 with h1; injection h1 with _ h1 _; exact absurd h1 (by decide))
  clear hnews h1n hg h hn
  go_enter Tryz.func295, Tryz.ntmps295
  go_wp2_with fail
  refine HC.out.mono ?_
  rintro e w1 ⟨rfl, h1, hb1, hk1⟩
  obtain ⟨hB, v, hbk, hown, hne⟩ := h1
  have c0 : w1.cell? ⟨b, 0, none⟩ = some (.pointer (some ⟨b, 0, none⟩)) := by rw [Lib.cell_of_heap hbk]; rfl
  have c1 : w1.cell? ⟨b, 1, none⟩ = some v := by rw [Lib.cell_of_heap hbk]; rfl
  have HG1 : Hid (∀ j u, news[j]? = some u → w1.cell? ((⟨g, o, none⟩ : Addr).add j) = some u) := Lib.hid fun j u hj => by
    have h2 := hk1 g _ HN.out.2.2.1 (fun e => HNe.out (by injection e)) (fun c fz e => by injection e with _ e _; cases e)
    have e : (⟨g, o, none⟩ : Addr).add j = ⟨g, o + j, none⟩ := by unfold Addr.add; split <;> simp_all
    rw [e]
    simp only [World.cell?, h2]
    exact HN.out.1 j u hj
  go_wp2_with (at_builtin; refine wpList_append_ownF _ rfl _ _ 58 rfl B 5 i0 (.int .u8 0) 1 1 Tryz.underlying58 hi hz0 hz1 hz2 rfl (by decide) _ _ _ rfl hown ⟨g, o, none⟩ n cap news rfl (by rw [Nat.mul_one]; exact HN.out.2.2.2) HG1.out HN.out.2.1 ?c3 ?c4 ?c5 ?_)
  case c3 => unfold maxLen; omega
  case c4 => omega
  case c5 => have := hb1.size; omega
  intro v' w2 hown' hgrow _
  have hlt : b < w1.heap.size := by
    rcases Nat.lt_or_ge b w1.heap.size with h' | h'
    · exact h'
    · simp [Array.getElem?_eq_none h'] at hbk
  have hb2 : w2.heap[b]? = some (.cells #[.pointer (some ⟨b, 0, none⟩), v] 224 (0, 0)) := by
    rw [hgrow.block b hlt (fun e => hne e.symm)]
    exact hbk
  have d0 : w2.cell? ⟨b, 0, none⟩ = some (.pointer (some ⟨b, 0, none⟩)) := by rw [Lib.cell_of_heap hb2]; rfl
  have d1 : w2.cell? ⟨b, 1, none⟩ = some v := by rw [Lib.cell_of_heap hb2]; rfl
  have f1 : w2.frozen? ⟨b, 1, none⟩ = false := Lib.frozen_of_heap hb2 1
  obtain ⟨g', cap', rfl⟩ : ∃ g' cap', v' = .slice g' (bs.length + n) cap' := by
    rcases hown'.2 with ⟨h0, h00⟩ | ⟨g', cap', cur, fz, hv, _⟩
    · exact ⟨none, 0, by rw [h0, h00]⟩
    · exact ⟨_, cap', hv⟩
  have HR : Hid (Lib.BuilderAtF 224 5 B b (.pointer (some ⟨b, 0, none⟩)) (bs ++ news) (w2.setCell ⟨b, 1, none⟩ (.slice g' (bs.length + n) cap'))) := Lib.hid (Lib.BuilderAtF.put (T := 224) (e := 5) hB hb2 (bs' := bs ++ news) (by have := hown'; rw [← HN.out.2.2.2] at this; simpa [HN.out.2.2.2] using hown') Go.Proofs.Tryz.bld_Extra.neB5)
  have HR2 : Hid (Below B w (w2.setCell ⟨b, 1, none⟩ (.slice g' (bs.length + n) cap'))) := Lib.hid ((hb1.grown hgrow (by have := hb1.size; omega) (fun k hk => (hown.lt k hk).1)).setCell (p := ⟨b, 1, none⟩) hB _)
  have HR3 : Hid (Lib.OthersKept 5 (some b) w (w2.setCell ⟨b, 1, none⟩ (.slice g' (bs.length + n) cap'))) := Lib.hid ((hk1.grown hgrow (Lib.ownsRowF_kind hown)).setCell ⟨b, 1, none⟩ rfl _)
  clear hown' hgrow hown hk1 hb1
  go_wp2
  go_ret2
  exact ⟨rfl, HR.out, HR2.out, HR3.out⟩

/-- The builder as a writer. -/
def bldWr : Wr := { T := 222, fb := 191, fs := 296, fw := 295, Is := fun B b l w => Lib.IsBuilderF 224 5 B b (Lib.byteCells l) w }
theorem bldF_kept {B b : Nat} {p : Value} {bs : List Value} {W W' : World} (h : Lib.BuilderAtF 224 5 B b p bs W) (hk : Lib.OthersKept 105 none W W') : Lib.BuilderAtF 224 5 B b p bs W' := by
  obtain ⟨h1, v, h2, ⟨hl, h3⟩, h4⟩ := h
  refine ⟨h1, v, hk b _ h2 (by simp) (fun c fz e => by injection e with _ e _; cases e), ⟨hl, ?_⟩, h4⟩
  rcases h3 with h3 | ⟨g, cap, cur, fz, hv, hb, hg, hr⟩
  · exact .inl h3
  · exact .inr ⟨g, cap, cur, fz, hv, hb, hk g _ hg (by simp) (fun c fz e => by injection e with _ e _; cases e), hr⟩
theorem bldWr_keeps : bldWr.Keeps := ⟨fun _ _ _ _ _ h hk => h.elim (fun x => .inl (bldF_kept x hk)) (fun x => .inr (bldF_kept x hk))⟩
theorem bldWr_writes : bldWr.Writes where
  meth := fun p w => by show (method 412 222 (.pointer p) "Write").run Tryz.prog w = .ok (295, .pointer p) w; kernel_rfl
  enter := fun args w => by show (callFunc 295 args).run Tryz.prog w = .ok (.enter 295 args) w; exact enters_of Tryz.func295 (by kernel_rfl) rfl args w
  write := fun B b eb o n cap l t cs w h he hn hc hl hB => by
    subst hn
    refine (bld_Write_k B b (Lib.byteCells l) eb o t.length cap cs (Lib.byteCells t) (by simp [Lib.byteCells]) w h he (fun j u hj => ?_) (fun u hu => ?_) (by simpa [Lib.byteCells] using hl) hB).mono fun e w' ⟨he, h1, h2, h3⟩ => ⟨he, .inr (by simpa [Lib.byteCells] using h1), h2, h3⟩
    · simp only [Lib.byteCells, List.getElem?_map, Option.map_eq_some_iff] at hj
      obtain ⟨c, hc2, rfl⟩ := hj
      obtain ⟨hlt, rfl⟩ := List.getElem?_eq_some_iff.1 hc2
      exact hc j hlt
    · simp only [Lib.byteCells, List.mem_map] at hu
      obtain ⟨c, _, rfl⟩ := hu
      rfl
theorem bldWr_strs : bldWr.Strs where
  meth := fun p w => by show (method 412 222 (.pointer p) "WriteString").run Tryz.prog w = .ok (296, .pointer p) w; kernel_rfl
  enter := fun args w => by show (callFunc 296 args).run Tryz.prog w = .ok (.enter 296 args) w; exact enters_of Tryz.func296 (by kernel_rfl) rfl args w
  write := fun B b l s w h hl hB => (Go.Proofs.Tryz.bld_WriteString_k B b (Lib.byteCells l) s w h (by simpa [Lib.byteCells] using hl) hB).mono fun e w' ⟨he, h1, h2, h3⟩ => ⟨he, .inr (by simpa [Lib.byteCells, Lib.strCells] using h1), h2, h3⟩
theorem bldWr_bytes : bldWr.Bytes where
  meth := fun p w => by show (method 412 222 (.pointer p) "WriteByte").run Tryz.prog w = .ok (191, .pointer p) w; kernel_rfl
  enter := fun args w => by show (callFunc 191 args).run Tryz.prog w = .ok (.enter 191 args) w; exact enters_of Tryz.func191 (by kernel_rfl) rfl args w
  write := fun B b l c w h hl hB => (Go.Proofs.Tryz.bld_WriteByte_k B b (Lib.byteCells l) c.toNat w h (by simpa [Lib.byteCells] using hl) hB).mono fun e w' ⟨he, h1, h2, h3⟩ => ⟨he, .inr (by simpa [Lib.byteCells] using h1), h2, h3⟩
end Go.Proofs.YtjpcdbopioblaaaGreatDoor

/- A slice of bytes of the call's own: a string behind it, and the string that it is. -/
namespace Go.Proofs.YtjpcdbopioblaaaGreatDoor
open Go.RowKit

/-- The slice is the call's own and holds these bytes. -/
def BRow (base : Nat) (v : Value) (l : List UInt8) (w : World) : Prop := w.ownsRow base 5 1 v l.length (Lib.byteCells l)
theorem BRow.nil (base : Nat) (w : World) : BRow base (.slice none 0 0) [] w := World.ownsRow_nil w base _ 1
theorem BRow.shape {base : Nat} {v : Value} {l : List UInt8} {w : World} (h : BRow base v l w) : ∃ a c, v = .slice a l.length c := by
  rcases h.2 with ⟨e, h0⟩ | ⟨g, cp, cu, e, _⟩
  · exact ⟨none, 0, by rw [e, h0]⟩
  · exact ⟨_, _, e⟩
theorem BRow.drewN {base : Nat} {v : Value} {l : List UInt8} {w : World} (h : BRow base v l w) (n : Nat) : BRow base v l (w.drewN n) := h
set_option maxRecDepth 100000 in
theorem app_str {ops : Array Oper} {rest : List Oper} {o : Oper} {a : Act} {Q : Exit → Act → World → Prop} {w : World} (hgd : o.guard = none) (sl x : Operand)
    (ho : o.op = .call { callee := .builtin .append, args := #[sl, x], argTypes := #[58, 9] }) (base : Nat) (v : Value) (l : List UInt8) (hs : a.eval sl = v) (hown : BRow base v l w) (s : ByteArray) (hx : a.eval x = .string s)
    (hb : l.length + s.size ≤ 140737488355328) (hbase : base ≤ w.heap.size)
    (h : ∀ v' w', BRow base v' (l ++ s.data.toList) w' → Below base w w' → wpList Tryz.prog ops Q rest (a.put o.dst v') w') : wpList Tryz.prog ops Q (o :: rest) a w := by
  have hinfo : (Tryz.prog.info? 5).map (fun i => (i.zero, i.size, i.bytes)) = some (some (Value.int IntKind.u8 0), 1, 1) := by kernel_rfl
  obtain ⟨i, hi, he⟩ := Option.map_eq_some_iff.1 hinfo
  simp only [Prod.mk.injEq] at he
  refine Lib.wpList_append_own_string w hgd sl x _ _ ho base 5 i Tryz.underlying58 Tryz.underlying9 hi he.1 he.2.1 he.2.2 v l.length _ hs hown s hx (by unfold maxLen; omega) hb hbase ?_
  intro v' w' hown' hg _
  have hl : (l ++ s.data.toList).length = l.length + s.size := by rw [List.length_append, Array.length_toList]; rfl
  have hr : BRow base v' (l ++ s.data.toList) w' := by
    unfold BRow
    rw [hl]
    have e : Lib.byteCells (l ++ s.data.toList) = Lib.byteCells l ++ Lib.strCells s := by simp [Lib.byteCells, Lib.strCells]
    rw [e]
    exact hown'
  exact h v' w' hr ((Below.refl base w).grown hg hbase (fun g e => (hown.lt g e).1))

theorem wpList_convert_run {P : Program} {ops : Array Oper} {rest : List Oper} {o : Oper} {a : Act} {Q : Exit → Act → World → Prop} {w : World} (hgd : o.guard = none) (x : Operand) (t u : TypeId) (ho : o.op = .convert t u x) (v r : Value) (hx : a.eval x = v)
    (hr : (convert t u v).run P w = .ok r w) (h : wpList P ops Q rest (a.put o.dst r) w) : wpList P ops Q (o :: rest) a w := by
  refine wpList_plain hgd fun K hK => ?_
  unfold Oper.wp execOp
  simp only [ho, Sem.run_bind, Sem.run_pure, Result.andThen_ok, hx, hr]
  exact hK _ _ h

theorem row_text {base : Nat} {v : Value} {l : List UInt8} {w : World} (h : BRow base v l w) : (convert 58 9 v).run Tryz.prog w = .ok (.string ⟨l.toArray⟩) w := by
  obtain ⟨hl, ⟨rfl, h0⟩ | ⟨g, cap, cur, rfl, hb, hg, hn, hc, hcs, htk⟩⟩ := h
  · have : l = [] := List.eq_nil_of_length_eq_zero h0
    subst this
    exact Lib.run_convert_nil_bytes w _ _ 5 0 Tryz.underlying58 Tryz.underlying5 Tryz.underlying9
  · refine run_convert_bytes_back w _ _ 5 ⟨g, 0, none⟩ cap l Tryz.underlying58 Tryz.underlying5 Tryz.underlying9 (fun j hj => ?_)
    have h1 : (cur.toList.take (l.length * 1))[j]? = some (.int .u8 (l[j].toNat : Int)) := by
      rw [htk]; simp [Lib.byteCells, List.getElem?_eq_getElem hj]
    rw [List.getElem?_take_of_lt (by omega)] at h1
    have e : (⟨g, 0, none⟩ : Addr).add j = ⟨g, j, none⟩ := by unfold Addr.add; split <;> simp_all
    rw [e]
    simp only [World.cell?, hg]
    simpa using h1
end Go.Proofs.YtjpcdbopioblaaaGreatDoor

/- Signs written as their entities: plain. -/
namespace Go.Proofs.YtjpcdbopioblaaaGreatDoor
open Go.RowKit

/-- A byte by pairs of a sign and its entity. -/
def esc (pr : List (UInt8 × List UInt8)) (c : UInt8) : List UInt8 := match pr.find? (fun p => p.1 == c) with
  | some p => p.2
  | none => [c]
theorem esc_hit {pr : List (UInt8 × List UInt8)} {c : UInt8} {j : Nat} (h : j < pr.length) (he : pr[j].1 = c) (hn : ∀ i (hi : i < pr.length), i < j → pr[i].1 ≠ c) : esc pr c = pr[j].2 := by
  unfold esc
  have hf : pr.find? (fun p => p.1 == c) = some pr[j] := by
    rw [List.find?_eq_some_iff_getElem]
    refine ⟨by simp [he], j, h, rfl, fun i hi => ?_⟩
    simpa using hn i (by omega) hi
  rw [hf]
theorem esc_miss {pr : List (UInt8 × List UInt8)} {c : UInt8} (hn : ∀ i (hi : i < pr.length), pr[i].1 ≠ c) : esc pr c = [c] := by
  unfold esc
  have hf : pr.find? (fun p => p.1 == c) = none := by
    rw [List.find?_eq_none]
    intro p hp
    obtain ⟨i, hi, rfl⟩ := List.getElem_of_mem hp
    simpa using hn i hi
  rw [hf]
/-- The pairs lie in a block, by turns. -/
def PairsAt (W : World) (b : Nat) (pr : List (UInt8 × List UInt8)) : Prop := ∀ j (h : j < pr.length), W.cell? ⟨b, j * 2, none⟩ = some (.string ⟨#[pr[j].1]⟩) ∧ W.cell? ⟨b, j * 2 + 1, none⟩ = some (.string ⟨pr[j].2.toArray⟩)
theorem PairsAt.below {W W' : World} {b : Nat} {pr : List (UInt8 × List UInt8)} (h : PairsAt W b pr) (hb : Below W.heap.size W W') : PairsAt W' b pr := fun j hj => by
  obtain ⟨h1, h2⟩ := h j hj
  exact ⟨(hb.cell (p := ⟨b, _, none⟩) (cell_lt h1)).trans h1, (hb.cell (p := ⟨b, _, none⟩) (cell_lt h2)).trans h2⟩
def prH : List (UInt8 × List UInt8) := [(60, [38, 108, 116, 59]), (62, [38, 103, 116, 59]), (38, [38, 97, 109, 112, 59]), (39, [38, 97, 112, 111, 115, 59]), (34, [38, 113, 117, 111, 116, 59])]
def prS : List (UInt8 × List UInt8) := [(60, [38, 108, 116, 59]), (62, [38, 103, 116, 59]), (38, [38, 97, 109, 112, 59]), (39, [38, 35, 51, 57, 59]), (34, [38, 113, 117, 111, 116, 59])]
theorem esc_same {l : List UInt8} (h : ∀ c ∈ l, c ≠ 39) : l.flatMap (esc prS) = l.flatMap (esc prH) := by
  induction l with
  | nil => rfl
  | cons c l ih =>
    rw [List.flatMap_cons, List.flatMap_cons, ih fun d hd => h d (by simp [hd])]
    congr 1
    have hc : ((39 : UInt8) == c) = false := by
      rw [beq_eq_false_iff_ne]
      exact fun e => h c (by simp) e.symm
    unfold esc prS prH
    simp only [List.find?_cons, hc]
    repeat' split
    all_goals first | rfl | simp_all
theorem esc_len {pr : List (UInt8 × List UInt8)} {c : UInt8} {m : Nat} (h : ∀ p ∈ pr, p.2.length ≤ m) (hm : 1 ≤ m) : (esc pr c).length ≤ m := by
  unfold esc
  split
  · rename_i p hp
    exact h p (List.mem_of_find?_eq_some hp)
  · simpa using hm
theorem escs_len {pr : List (UInt8 × List UInt8)} {m : Nat} (h : ∀ p ∈ pr, p.2.length ≤ m) (hm : 1 ≤ m) : ∀ l : List UInt8, (l.flatMap (esc pr)).length ≤ m * l.length
  | [] => by simp
  | c :: l => by
    have h1 := esc_len (c := c) h hm
    have h2 := escs_len h hm l
    rw [List.flatMap_cons, List.length_append, List.length_cons, Nat.mul_add, Nat.mul_one]
    omega
theorem pairs_built {W : World} {T : TypeId} {pr : List (UInt8 × List UInt8)} {b : Nat} {cs : Array Value} (hb : W.heap[b]? = some (.cells cs T (0, 0))) (hc : cs.toList = pr.flatMap fun p => [.string ⟨#[p.1]⟩, .string ⟨p.2.toArray⟩]) : PairsAt W b pr := by
  have key : ∀ (l : List (UInt8 × List UInt8)) (j : Nat) (h : j < l.length), (l.flatMap fun p => [Value.string ⟨#[p.1]⟩, Value.string ⟨p.2.toArray⟩])[j * 2]? = some (.string ⟨#[l[j].1]⟩) ∧ (l.flatMap fun p => [Value.string ⟨#[p.1]⟩, Value.string ⟨p.2.toArray⟩])[j * 2 + 1]? = some (.string ⟨l[j].2.toArray⟩) := by
    intro l
    induction l with
    | nil => intro j h; simp at h
    | cons p l ih =>
      intro j h
      cases j with
      | zero => simp
      | succ j =>
        have := ih j (by simpa using h)
        rw [show (j + 1) * 2 = j * 2 + 2 by omega]
        simpa using this
  intro j h
  have := key pr j h
  rw [← hc] at this
  simpa [World.cell?, hb] using this
end Go.Proofs.YtjpcdbopioblaaaGreatDoor

/- gojq's zzReplacer.Replace and the reference's changed walked. -/
namespace Go.Proofs.YtjpcdbopioblaaaGreatDoor
open Go.RowKit

/-- 'append(out, c)' onto a row of bytes of the call's own. -/
theorem app_byte {ops : Array Oper} {rest : List Oper} {o : Oper} {a : Act} {Q : Exit → Act → World → Prop} {w : World} (hgd : o.guard = none) (sl x : Operand)
    (ho : o.op = .call { callee := .builtin .append, args := #[sl, x], argTypes := #[58, 58] }) (base : Nat) (v : Value) (l : List UInt8) (hs : a.eval sl = v) (hown : BRow base v l w) (c : UInt8) (b cap : Nat) (hx : a.eval x = .slice (some ⟨b, 0, none⟩) 1 cap) (hb : w.cell? ⟨b, 0, none⟩ = some (.int .u8 c.toNat))
    (hl : l.length + 1 ≤ 140737488355328) (hbase : base ≤ w.heap.size)
    (h : ∀ v' w', BRow base v' (l ++ [c]) w' → Below base w w' → wpList Tryz.prog ops Q rest (a.put o.dst v') w') : wpList Tryz.prog ops Q (o :: rest) a w := by
  have hinfo : (Tryz.prog.info? 5).map (fun i => (i.zero, i.size, i.bytes)) = some (some (Value.int IntKind.u8 0), 1, 1) := by kernel_rfl
  obtain ⟨i, hi, he⟩ := Option.map_eq_some_iff.1 hinfo
  simp only [Prod.mk.injEq] at he
  refine wpList_append_where (P := Tryz.prog) w hgd sl x 58 ho base 5 i (.int .u8 0) 1 1 Tryz.underlying58 hi he.1 he.2.1 he.2.2 rfl (by decide) v l.length (Lib.byteCells l) hs hown ⟨b, 0, none⟩ 1 cap [.int .u8 c.toNat] hx rfl (fun j u hu => ?_) (fun u hu => ?_) (by decide) (by unfold maxLen; omega) (by omega) hbase ?_
  · cases j with
    | zero =>
      simp only [List.getElem?_cons_zero, Option.some.injEq] at hu
      subst hu
      rw [add_mk]
      exact hb
    | succ j => simp at hu
  · rw [List.mem_singleton.1 hu]; rfl
  · intro v' w' hown' hg _
    have hr : BRow base v' (l ++ [c]) w' := by
      unfold BRow
      rw [List.length_append, List.length_singleton]
      have e : Lib.byteCells (l ++ [c]) = Lib.byteCells l ++ [.int .u8 c.toNat] := by simp [Lib.byteCells]
      rw [e]
      exact hown'
    exact h v' w' hr ((Below.refl base w).grown hg hbase (fun g e => (hown.lt g e).1))

theorem BRow.alloc {base : Nat} {v : Value} {l : List UInt8} {w : World} (h : BRow base v l w) (o : Obj) : BRow base v l (w.alloc o) := World.ownsRow.alloc h o
theorem esc_take {s : ByteArray} {pr : List (UInt8 × List UInt8)} {i : Nat} (h : i < s.size) : (s.data.toList.take (i + 1)).flatMap (esc pr) = (s.data.toList.take i).flatMap (esc pr) ++ esc pr s[i] := by
  rw [List.take_succ_eq_append_getElem (by simpa using h), List.flatMap_append]
  have e : s.data.toList[i]'(by simpa using h) = s[i] := rfl
  rw [e]
  simp
set_option maxRecDepth 100000 in
set_option maxHeartbeats 3200000 in
theorem replace_any (pr : List (UInt8 × List UInt8)) (hpr : pr.length = 5) (hq : ∀ p ∈ pr, p.2.length ≤ 10) (s : ByteArray) (b c : Nat) (w : World) (hP : PairsAt w b pr) (hs : s.size ≤ 1000000) :
    Calls Tryz.prog 138 #[.slice (some ⟨b, 0, none⟩) 10 c, .string s] w fun e w' => e = .returned (.string ⟨(s.data.toList.flatMap (esc pr)).toArray⟩) ∧ Below w.heap.size w w' := by
  have HP := Lib.hid hP
  have HQ := Lib.hid (And.intro hpr hq)
  clear hP hpr hq
  go_enter Tryz.func138, Tryz.ntmps138
  go_wp2_with fail
  go_loopg [5, 6] s.size (fun gk s5 s6 wr => ∃ i : Nat, s6 = .int .i64 i ∧ i ≤ s.size ∧ gk = s.size - i ∧ Hid (BRow w.heap.size s5 ((s.data.toList.take i).flatMap (esc pr)) wr ∧ Below w.heap.size w wr))
  case atStart => exact ⟨0, rfl, Nat.zero_le _, rfl, Lib.hid ⟨by simpa using BRow.nil w.heap.size w, Below.refl _ _⟩⟩
  case round =>
    obtain ⟨i, rfl, hi, rfl, HB⟩ := hrel
    obtain ⟨av, cv, rfl⟩ := BRow.shape HB.out.1
    by_cases hlt : i < s.size
    · have hj : (i : Int) < (s.size : Int) := by omega
      have HT := Lib.hid (esc_take (pr := pr) hlt)
      have HLN := Lib.hid (escs_len HQ.out.2 (by decide) (s.data.toList.take i))
      generalize hLL : (s.data.toList.take i).flatMap (esc pr) = L at *
      clear hLL
      clear hi
      go_wp2_with fail
      go_loopg [7] 5 (fun gk s7 wx => ∃ j : Nat, s7 = .int .i64 ((j : Int) * 2) ∧ j ≤ 5 ∧ gk = 5 - j ∧ Hid ((∀ q (hq : q < pr.length), q < j → pr[q].1 ≠ s[i]) ∧ BRow w.heap.size (.slice av L.length cv) L wx ∧ Below w.heap.size w wx))
      case atStart => exact ⟨0, rfl, by decide, rfl, Lib.hid ⟨fun q _ h => absurd h (by omega), HB.out.1, HB.out.2⟩⟩
      case round =>
        obtain ⟨j, rfl, hj5, rfl, HJ⟩ := hrel
        by_cases hjl : j < 5
        · have hjp : j < pr.length := by rw [HQ.out.1]; exact hjl
          obtain ⟨hc0, hc1⟩ := (HP.out.below HJ.out.2.2) j hjp
          have hk1 : (j : Int) * 2 < 10 := by omega
          have hd1 : decide ((j : Int) * 2 < 10) = true := decide_eq_true hk1
          have HLEN := Lib.hid (show L.length ≤ 100000000 from by
            have h1 : (s.data.toList.take i).length ≤ s.size := by rw [List.length_take, Array.length_toList]; exact Nat.min_le_right _ _
            have h2 := HLN.out
            omega)
          by_cases he : pr[j].1 = s[i]
          · have hg0 : ∀ hz : 0 < (⟨#[(pr[j]'hjp).1]⟩ : ByteArray).size, (⟨#[(pr[j]'hjp).1]⟩ : ByteArray)[0]'hz = s[i] := fun _ => he
            have HE := Lib.hid (esc_hit hjp he HJ.out.1)
            have HP2 := Lib.hid (HQ.out.2 pr[j] (List.getElem_mem hjp))
            clear he hj5
            go_wp2_with fail
            go_quiet (fail)
            have HJ2 := Lib.hid (And.intro (HJ.out.2.1.drewN nq) (HJ.out.2.2.trans (show Below w.heap.size wr (wr.drewN nq) from ⟨rfl, rfl, rfl, Nat.le_refl _, fun _ _ => rfl⟩)))
            generalize wr.drewN nq = wq at *
            obtain ⟨hc0, hc1⟩ := (HP.out.below HJ2.out.2) j hjp
            have HSZ := Lib.hid (show L.length + (⟨(pr[j].2).toArray⟩ : ByteArray).size ≤ 140737488355328 from by
              have h1 := HLEN.out
              have h2 := HP2.out
              have h3 : (⟨(pr[j].2).toArray⟩ : ByteArray).size = pr[j].2.length := by show (List.toArray _).size = _; simp
              omega)
            go_wp2_with (at_builtin; refine app_str rfl (.tmp 35) (.tmp 40) rfl w.heap.size _ _ rfl HJ2.out.1 ⟨(pr[j].2).toArray⟩ rfl HSZ.out HJ2.out.2.size ?_; intro v' w' hrow' hbel')
            have HF := Lib.hid (show BRow w.heap.size v' ((s.data.toList.take (i + 1)).flatMap (esc pr)) w' ∧ Below w.heap.size w w' from ⟨by rw [HT.out, HE.out]; exact hrow', HJ2.out.2.trans hbel'⟩)
            clear hrow' hbel' hc0 hc1
            go_wp2_with fail
            go_roundg (s.size - (i + 1))
            case measure => omega
            case rel => exact ⟨i + 1, by go_num, by omega, rfl, HF⟩
          · have hg0 : ∀ hz : 0 < (⟨#[(pr[j]'hjp).1]⟩ : ByteArray).size, (⟨#[(pr[j]'hjp).1]⟩ : ByteArray)[0]'hz = (pr[j]'hjp).1 := fun _ => rfl
            have hne : ((pr[j].1.toNat : Int) == (s[i].toNat : Int)) = false := by
              rw [beq_eq_false_iff_ne]
              intro e
              exact he (UInt8.toNat_inj.1 (by omega))
            have HNE := Lib.hid (show ∀ q (hq : q < pr.length), q < j + 1 → pr[q].1 ≠ s[i] from fun q hq h => by
              rcases Nat.lt_or_ge q j with h1 | h1
              · exact HJ.out.1 q hq h1
              · obtain rfl : q = j := by omega
                exact he)
            clear he hj5
            go_wp2_with fail
            go_quiet (fail)
            have HJ2 := Lib.hid (And.intro (HJ.out.2.1.drewN nq) (HJ.out.2.2.trans (show Below w.heap.size wr (wr.drewN nq) from ⟨rfl, rfl, rfl, Nat.le_refl _, fun _ _ => rfl⟩)))
            generalize wr.drewN nq = wq at *
            go_wp2_with fail
            go_roundg (5 - (j + 1))
            case measure => omega
            case rel => exact ⟨j + 1, by congr 1; omega, by omega, rfl, Lib.hid ⟨HNE.out, HJ2.out⟩⟩
        · obtain rfl : j = 5 := by omega
          have HM := Lib.hid (esc_miss (c := s[i]) fun q hq => HJ.out.1 q hq (by have := HQ.out.1; omega))
          clear hjl hj5
          go_wp2_with fail
          go_quiet (fail)
          have HJ2 := Lib.hid (And.intro (HJ.out.2.1.drewN nq) (HJ.out.2.2.trans (show Below w.heap.size wr (wr.drewN nq) from ⟨rfl, rfl, rfl, Nat.le_refl _, fun _ _ => rfl⟩)))
          generalize wr.drewN nq = wq at *
          have HAL := Lib.hid (show ∀ o, BRow w.heap.size (.slice av L.length cv) L (wq.alloc o) ∧ Below w.heap.size w (wq.alloc o) from fun o => ⟨HJ2.out.1.alloc o, HJ2.out.2.alloc HJ2.out.2.size o⟩)
          have HLEN := Lib.hid (show L.length + 1 ≤ 140737488355328 from by
            have h1 : (s.data.toList.take i).length ≤ s.size := by rw [List.length_take, Array.length_toList]; exact Nat.min_le_right _ _
            have h2 := HLN.out
            omega)
          go_wp2_with (at_builtin; refine app_byte rfl (.tmp 42) (.tmp 46) rfl w.heap.size _ L rfl (HAL.out _).1 s[i] wq.heap.size 1 rfl (by simp) HLEN.out (HAL.out _).2.size ?_; intro v' w' hrow' hbel')
          have HF := Lib.hid (show BRow w.heap.size v' ((s.data.toList.take (i + 1)).flatMap (esc pr)) w' ∧ Below w.heap.size w w' from ⟨by rw [HT.out, HM.out]; exact hrow', (HAL.out _).2.trans hbel'⟩)
          clear hrow' hbel'
          go_wp2_with fail
          go_roundg (s.size - (i + 1))
          case measure => omega
          case rel => exact ⟨i + 1, by go_num, by omega, rfl, HF⟩
    · obtain rfl : i = s.size := by omega
      have htk : s.data.toList.take s.size = s.data.toList := List.take_of_length_le (by rw [Array.length_toList]; exact Nat.le_refl _)
      rw [htk] at HB ⊢
      have hcv := row_text HB.out.1
      generalize hL : s.data.toList.flatMap (esc pr) = L at *
      have HL := Lib.hid hL
      clear hi hlt hL
      go_wp2_with fail
      go_ret
      exact ⟨by rw [HL.out]; rfl, HB.out.2⟩
end Go.Proofs.YtjpcdbopioblaaaGreatDoor

/- The two tables of unicode/utf8 as the rows list them: a world that holds them, and what the condition gives the walks. -/
namespace Go.Proofs.YtjpcdbopioblaaaGreatDoor
open Go.RowKit

theorem first_is : Rows.laid_unicode_utf8_first = Lib.firstData := by kernel_rfl
theorem accept_is : (Rows.laid_unicode_utf8_acceptRanges : DataW Unit) = Lib.acceptData := by kernel_rfl

def Laid : List (String × DataW Unit) := [("unicode/utf8.acceptRanges", Rows.laid_unicode_utf8_acceptRanges), ("unicode/utf8.first", Rows.laid_unicode_utf8_first)]

/-- The settled world, the two variables holding what their initialisers lay. -/
noncomputable def laidWorld (os : Os) : World :=
  let w0 := World.holding Tryz.prog os ⟨#[], #[], []⟩
  let put (h : Array Obj) (g : Nat) (cs : Array Value) : Array Obj := h.modify g fun
    | .cells _ t frozen => .cells cs t frozen
    | o => o
  let h1 := put w0.heap 0 (Lib.firstTab.map fun z => Value.int .u8 z).toArray
  let h2 := put h1 1 ((List.range 16).flatMap fun i => [Value.int .u8 (Lib.accLo i), Value.int .u8 (Lib.accHi i)]).toArray
  { w0 with heap := h2 }

theorem laid_met (os : Os) (args : Array Value) : laidMetH Tryz.prog Laid ((laidWorld os).forCall (fun _ _ => 0) ⟨#[], args, []⟩).memory :=
  laidMetH_of_parts ((LaidIn.of_run (l := Laid) [0, 1] 8 (by kernel_rfl) (by kernel_rfl) (by kernel_rfl) (by kernel_rfl)).met) (by kernel_rfl)

theorem tabs_of_laid {W : World} (h : laidMetH Tryz.prog Laid W) : Tabs W := by
  have hL : laidMet Tryz.prog Laid W := h
  unfold Laid at hL
  rw [first_is, accept_is] at hL
  exact utf8Tabs_of_readsT (U8Types.of196 Tryz.laysValid) ⟨by kernel_rfl, by kernel_rfl, by kernel_rfl, by kernel_rfl, by kernel_rfl, by kernel_rfl, by kernel_rfl⟩
    (Lib.laidMet.reads hL (.tail _ (.head _))) (Lib.laidMet.reads hL (.head _))
end Go.Proofs.YtjpcdbopioblaaaGreatDoor
