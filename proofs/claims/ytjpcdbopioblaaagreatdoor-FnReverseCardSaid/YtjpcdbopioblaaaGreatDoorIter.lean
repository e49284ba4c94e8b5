/-
  DERIVED: THE SHELF's CONTRACTS AT THIS DUMP, IN PLAIN WORDS (tools/lay-plain.mjs out of 'TryzIterTry.lean', which tools/lay-shelf.mjs wrote): THE SAME DECLARATIONS UNDER THE SAME NAMES: 'import', 'namespace', 'open', 'def', 'theorem' AND NOTHING ELSE: no command of the shelf's: FOR A HAND-IN. Each laying: the table of numbers ('.._ren') and one theorem, a field a fact of the dump's own or the kernel's comparison; each contract: ONE APPLICATION.
-/
import Derived.Shelf.SlIter.Nil
import Derived.Shelf.SortM.Plain
import Derived.Shelf.SortM.SortNone
import Derived.Ground.GgzProg
import Derived.Ground.SlgmProg
import Derived.Test.YtjpcdbopioblaaaGreatDoorProg
namespace Go.Proofs
open Go.Shelf
def Tryz.keys155_ren : Go.Shelf.Ren := ⟨fun | 7 => 155 | 10 => 174 | n => n, fun | 23 => 90 | 26 => 9 | 3 => 20 | 28 => 177 | 0 => 0 | 27 => 176 | 33 => 42 | 4 => 4 | n => n, fun | n => n⟩
theorem Tryz.keys155 : Go.Proofs.SlLaysZ.n7 Tryz.prog Tryz.keys155_ren := {
  mixed := by kernel_rfl
  f7 := ⟨Tryz.f155.name, by decide, Tryz.func155.trans (congrArg some (by kernel_rfl))⟩
  f10 := ⟨Tryz.f174.name, by decide, Tryz.func174.trans (congrArg some (by kernel_rfl))⟩
  t0 := Tryz.underlying0
  a0 := Tryz.isAgg0
  z0 := Tryz.sizeOf0
  v0 := Tryz.zeroValue0
  t4 := Tryz.underlying4
  a4 := Tryz.isAgg4
  z4 := Tryz.sizeOf4
  v4 := Tryz.zeroValue4
  t23 := Tryz.underlying90
  a23 := Tryz.isAgg90
  z23 := Tryz.sizeOf90
  v23 := Tryz.zeroValue90
  t26 := Tryz.underlying9
  a26 := Tryz.isAgg9
  z26 := Tryz.sizeOf9
  v26 := Tryz.zeroValue9
  t27 := Tryz.underlying176
  a27 := Tryz.isAgg176
  z27 := Tryz.sizeOf176
  v27 := Tryz.zeroValue176
  t28 := Tryz.underlying177
  a28 := Tryz.isAgg177
  z28 := Tryz.sizeOf177
  v28 := Tryz.zeroValue177
  t33 := Tryz.underlying42
  a33 := Tryz.isAgg42
  z33 := Tryz.sizeOf42
  v33 := Tryz.zeroValue42 }
def Tryz.sorted154_ren : Go.Shelf.Ren := ⟨fun | 6 => 154 | 8 => 172 | 9 => 173 | 11 => 195 | 13 => 184 | 12 => 196 | 23 => 216 | 24 => 217 | 14 => 228 | 15 => 229 | 16 => 230 | 17 => 231 | 18 => 232 | 19 => 233 | 20 => 234 | 21 => 235 | 22 => 236 | 25 => 253 | 26 => 254 | 27 => 255 | 28 => 256 | 29 => 257 | 30 => 258 | 31 => 260 | n => n, fun | 26 => 9 | 28 => 177 | 24 => 25 | 0 => 0 | 3 => 3 | 37 => 71 | 48 => 229 | 50 => 116 | 4 => 4 | 40 => 260 | 39 => 259 | 45 => 81 | 5 => 5 | 9 => 9 | 51 => 278 | 55 => 274 | 57 => 284 | 58 => 282 | 33 => 42 | n => n, fun | n => n⟩
theorem Tryz.sorted154 : Go.Proofs.SlLaysZ.n6 Tryz.prog Tryz.sorted154_ren := {
  mixed := by kernel_rfl
  f6 := ⟨Tryz.f154.name, by decide, Tryz.func154.trans (congrArg some (by kernel_rfl))⟩
  f8 := ⟨Tryz.f172.name, by decide, Tryz.func172.trans (congrArg some (by kernel_rfl))⟩
  f11 := ⟨Tryz.f195.name, by decide, Tryz.func195.trans (congrArg some (by kernel_rfl))⟩
  t0 := Tryz.underlying0
  a0 := Tryz.isAgg0
  z0 := Tryz.sizeOf0
  v0 := Tryz.zeroValue0
  t24 := Tryz.underlying25
  a24 := Tryz.isAgg25
  z24 := Tryz.sizeOf25
  v24 := Tryz.zeroValue25
  t26 := Tryz.underlying9
  a26 := Tryz.isAgg9
  z26 := Tryz.sizeOf9
  v26 := Tryz.zeroValue9
  t28 := Tryz.underlying177
  a28 := Tryz.isAgg177
  z28 := Tryz.sizeOf177
  v28 := Tryz.zeroValue177
  i26 := by kernel_rfl }
def Tryz.sort173_ren : Go.Shelf.Ren := ⟨fun | 6 => 173 | 8 => 184 | 9 => 196 | 19 => 216 | 20 => 217 | 21 => 228 | 22 => 229 | 23 => 230 | 24 => 231 | 25 => 232 | 26 => 233 | 27 => 234 | 28 => 235 | 29 => 236 | 36 => 253 | 31 => 254 | 32 => 255 | 37 => 256 | 38 => 257 | 39 => 258 | 41 => 260 | n => n, fun | 27 => 25 | 29 => 9 | 3 => 3 | 32 => 71 | 26 => 25 | 0 => 0 | 44 => 229 | 46 => 116 | 4 => 4 | 36 => 260 | 35 => 259 | 41 => 81 | 5 => 5 | 9 => 9 | 53 => 278 | 57 => 274 | 63 => 284 | 64 => 282 | n => n, fun | n => n⟩
theorem Tryz.sort173 : Go.Proofs.SlLaysM.n6 Tryz.prog Tryz.sort173_ren := {
  mixed := by kernel_rfl
  f6 := ⟨Tryz.f173.name, by decide, Tryz.func173.trans (congrArg some (by kernel_rfl))⟩
  f8 := Tryz.func184.trans (congrArg some (by kernel_rfl))
  f9 := ⟨Tryz.f196.name, by decide, Tryz.func196.trans (congrArg some (by kernel_rfl))⟩
  f19 := Tryz.func216.trans (congrArg some (by kernel_rfl))
  f20 := Tryz.func217.trans (congrArg some (by kernel_rfl))
  f21 := ⟨Tryz.f228.name, by decide, Tryz.func228.trans (congrArg some (by kernel_rfl))⟩
  f22 := ⟨Tryz.f229.name, by decide, Tryz.func229.trans (congrArg some (by kernel_rfl))⟩
  f23 := ⟨Tryz.f230.name, by decide, Tryz.func230.trans (congrArg some (by kernel_rfl))⟩
  f24 := ⟨Tryz.f231.name, by decide, Tryz.func231.trans (congrArg some (by kernel_rfl))⟩
  f25 := ⟨Tryz.f232.name, by decide, Tryz.func232.trans (congrArg some (by kernel_rfl))⟩
  f26 := ⟨Tryz.f233.name, by decide, Tryz.func233.trans (congrArg some (by kernel_rfl))⟩
  f27 := ⟨Tryz.f234.name, by decide, Tryz.func234.trans (congrArg some (by kernel_rfl))⟩
  f28 := ⟨Tryz.f235.name, by decide, Tryz.func235.trans (congrArg some (by kernel_rfl))⟩
  f29 := ⟨Tryz.f236.name, by decide, Tryz.func236.trans (congrArg some (by kernel_rfl))⟩
  f31 := Tryz.func254.trans (congrArg some (by kernel_rfl))
  f32 := Tryz.func255.trans (congrArg some (by kernel_rfl))
  f36 := ⟨Tryz.f253.name, by decide, Tryz.func253.trans (congrArg some (by kernel_rfl))⟩
  f37 := ⟨Tryz.f256.name, by decide, Tryz.func256.trans (congrArg some (by kernel_rfl))⟩
  f38 := ⟨Tryz.f257.name, by decide, Tryz.func257.trans (congrArg some (by kernel_rfl))⟩
  f39 := ⟨Tryz.f258.name, by decide, Tryz.func258.trans (congrArg some (by kernel_rfl))⟩
  f41 := ⟨Tryz.f260.name, by decide, Tryz.func260.trans (congrArg some (by kernel_rfl))⟩
  t0 := Tryz.underlying0
  a0 := Tryz.isAgg0
  z0 := Tryz.sizeOf0
  v0 := Tryz.zeroValue0
  t3 := Tryz.underlying3
  a3 := Tryz.isAgg3
  z3 := Tryz.sizeOf3
  v3 := Tryz.zeroValue3
  t4 := Tryz.underlying4
  a4 := Tryz.isAgg4
  z4 := Tryz.sizeOf4
  v4 := Tryz.zeroValue4
  t5 := Tryz.underlying5
  a5 := Tryz.isAgg5
  z5 := Tryz.sizeOf5
  v5 := Tryz.zeroValue5
  t9 := Tryz.underlying9
  a9 := Tryz.isAgg9
  z9 := Tryz.sizeOf9
  v9 := Tryz.zeroValue9
  t26 := Tryz.underlying25
  a26 := Tryz.isAgg25
  z26 := Tryz.sizeOf25
  v26 := Tryz.zeroValue25
  t27 := Tryz.underlying25
  a27 := Tryz.isAgg25
  z27 := Tryz.sizeOf25
  v27 := Tryz.zeroValue25
  t29 := Tryz.underlying9
  a29 := Tryz.isAgg9
  z29 := Tryz.sizeOf9
  v29 := Tryz.zeroValue9
  t32 := Tryz.underlying71
  a32 := Tryz.isAgg71
  z32 := Tryz.sizeOf71
  v32 := Tryz.zeroValue71
  t35 := Tryz.underlying259
  a35 := Tryz.isAgg259
  z35 := Tryz.sizeOf259
  v35 := Tryz.zeroValue259
  t36 := Tryz.underlying260
  a36 := Tryz.isAgg260
  z36 := Tryz.sizeOf260
  v36 := Tryz.zeroValue260
  t41 := Tryz.underlying81
  a41 := Tryz.isAgg81
  z41 := Tryz.sizeOf81
  v41 := Tryz.zeroValue81
  t44 := Tryz.underlying229
  a44 := Tryz.isAgg229
  z44 := Tryz.sizeOf229
  v44 := Tryz.zeroValue229
  t46 := Tryz.underlying116
  a46 := Tryz.isAgg116
  z46 := Tryz.sizeOf116
  v46 := Tryz.zeroValue116
  t53 := Tryz.underlying278
  a53 := Tryz.isAgg278
  z53 := Tryz.sizeOf278
  v53 := Tryz.zeroValue278
  t57 := Tryz.underlying274
  a57 := Tryz.isAgg274
  z57 := Tryz.sizeOf274
  v57 := Tryz.zeroValue274
  t63 := Tryz.underlying284
  a63 := Tryz.isAgg284
  z63 := Tryz.sizeOf284
  v63 := Tryz.zeroValue284
  t64 := Tryz.underlying282
  a64 := Tryz.isAgg282
  z64 := Tryz.sizeOf282
  v64 := Tryz.zeroValue282 }
open Go.RowKit Go.Maps Go.Sort Go.Shelf in
/-- slices.Sort's two contracts at this dump, at the fence that asks nothing. -/
theorem Tryz.sorts154 (m : Nat) : AnyZ.SortsIn Tryz.prog Tryz.sorted154_ren Fence.wide m :=
  ⟨fun blk off cap ss W hH hblk hsz => callsIn_wide.2 (AnyM.slices_Sort_string Tryz.sort173 blk off cap ss W hH hblk hsz),
   fun p cap W => callsIn_wide.2 (AnyM.slices_Sort_string_none Tryz.sort173 p cap W)⟩
open Go.RowKit Go.Maps Go.Sort Go.Shelf in
/-- **maps.Keys[map[string]any,string,any], at whatever map, the nil one too:** a function value over ONE NEW BLOCK, which holds the map. -/
theorem Tryz.maps_Keys_155 (mb : Option Nat) (W : World) : CallsIn Fence.wide 5 Tryz.prog 155 #[.map mb] W fun e w' => e = .returned (.func (.func 174) #[] #[.pointer (some ⟨W.heap.size, 0, none⟩)]) ∧ w' = W.alloc (.cells #[.map mb] 90) :=
  AnyZ.keys_in Tryz.keys155 Fence.wide 5 trivial rfl mb W
open Go.RowKit Go.Maps Go.Sort Go.Shelf in
/-- **slices.Sorted[string] AT WHAT maps.Keys[map[string]any,string,any] HANDED BACK FOR A MAP THAT IS NOT nil** ('w': the world AHEAD of maps.Keys' call): A NEW SLICE THAT HOLDS THE MAP's KEYS, SORTED; nil just where it has none; nothing that lay before has turned. -/
theorem Tryz.slices_Sorted_keys_154_155 {H : Type} (b nn : Nat) (D0 : DataW H) (R : Value → Option (DataW H × List MemPlace)) (w : World) (hown : w.ownsMap Tryz.prog 9 R b nn D0) (hmax : Maps.size D0 ≤ maxLen) (hbytes : Maps.size D0 * 16 ≤ 140737488355328) :
    CallsIn Fence.wide 5 Tryz.prog 154 #[.func (.func 174) #[] #[.pointer (some ⟨w.heap.size, 0, none⟩)]] (w.alloc (.cells #[.map (some b)] 90)) fun e w' => ∃ (v : Value) (ss : List (List UInt8)), e = .returned v ∧ ss.Perm (strKeys D0) ∧
      w'.ownsRow (w.alloc (.cells #[.map (some b)] 90)).heap.size 9 1 v ss.length ((ss.mergeSort (fun x y => decide (x ≤ y))).map encStr) ∧ (v = .slice none 0 0 ↔ ss = []) ∧ Below (w.alloc (.cells #[.map (some b)] 90)).heap.size (w.alloc (.cells #[.map (some b)] 90)) w' := by
  have hbl := hown.lt
  have hseq : SeqGives Fence.wide 2 Tryz.prog 174 #[.pointer (some ⟨w.heap.size, 0, none⟩)] encStr (fun ss => ss.Perm (strKeys D0)) (Maps.size D0) (w.alloc (.cells #[.map (some b)] 90)) :=
    AnyZ.keys_gives (ρ := Tryz.keys155_ren) { Tryz.keys155 with } Fence.wide _ trivial rfl (by omega) w.heap.size b nn D0 _ (by simp) (by simp) (by
      obtain ⟨es, clock, hb, Ft, hs, hD⟩ := hown
      exact ⟨es, clock, (Below.heap_alloc _ _ b hbl).trans hb, Ft, hs, hD⟩)
  exact AnyZ.sorted_in Tryz.sorted154 Fence.wide 5 trivial trivial trivial trivial rfl (by omega) (Tryz.sorts154 _) (enters_of Tryz.func173 (by kernel_rfl) rfl) 174 #[.pointer (some ⟨w.heap.size, 0, none⟩)] trivial (enters_of Tryz.func174 (by kernel_rfl) rfl) _ _ hmax hbytes _ hseq
open Go.RowKit Go.Maps Go.Sort Go.Shelf in
/-- **.. AND FOR THE nil MAP: nil.** -/
theorem Tryz.slices_Sorted_keys_nil_154_155 (w : World) :
    CallsIn Fence.wide 5 Tryz.prog 154 #[.func (.func 174) #[] #[.pointer (some ⟨w.heap.size, 0, none⟩)]] (w.alloc (.cells #[.map none] 90)) fun e w' => ∃ (v : Value) (ss : List (List UInt8)), e = .returned v ∧ ss = [] ∧
      w'.ownsRow (w.alloc (.cells #[.map none] 90)).heap.size 9 1 v ss.length ((ss.mergeSort (fun x y => decide (x ≤ y))).map encStr) ∧ (v = .slice none 0 0 ↔ ss = []) ∧ Below (w.alloc (.cells #[.map none] 90)).heap.size (w.alloc (.cells #[.map none] 90)) w' := by
  have hseq : SeqGives Fence.wide 2 Tryz.prog 174 #[.pointer (some ⟨w.heap.size, 0, none⟩)] encStr (fun ss : List (List UInt8) => ss = []) 0 (w.alloc (.cells #[.map none] 90)) :=
    AnyZ.keys_gives_nil (ρ := Tryz.keys155_ren) { Tryz.keys155 with } Fence.wide _ trivial rfl w.heap.size _ (by simp) (by simp)
  exact AnyZ.sorted_in Tryz.sorted154 Fence.wide 5 trivial trivial trivial trivial rfl (by omega) (Tryz.sorts154 _) (enters_of Tryz.func173 (by kernel_rfl) rfl) 174 #[.pointer (some ⟨w.heap.size, 0, none⟩)] trivial (enters_of Tryz.func174 (by kernel_rfl) rfl) _ 0 (Nat.zero_le _) (by omega) _ hseq
end Go.Proofs
