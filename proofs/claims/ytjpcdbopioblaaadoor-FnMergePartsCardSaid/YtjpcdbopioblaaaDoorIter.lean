/-
  DERIVED: THE SHELF's CONTRACTS AT THIS DUMP, IN PLAIN WORDS (tools/lay-plain.mjs out of 'TrydIterTry.lean', which tools/lay-shelf.mjs wrote): THE SAME DECLARATIONS UNDER THE SAME NAMES: 'import', 'namespace', 'open', 'def', 'theorem' AND NOTHING ELSE: no command of the shelf's: FOR A HAND-IN. Each laying: the table of numbers ('.._ren') and one theorem, a field a fact of the dump's own or the kernel's comparison; each contract: ONE APPLICATION.
-/
import Derived.Shelf.SlIter.Nil
import Derived.Shelf.SortM.Plain
import Derived.Shelf.SortM.SortNone
import Derived.Ground.GgzProg
import Derived.Ground.SlgmProg
import Derived.Test.YtjpcdbopioblaaaDoorProg
namespace Go.Proofs
open Go.Shelf
def Tryd.keys100_ren : Go.Shelf.Ren := ⟨fun | 7 => 100 | 10 => 112 | n => n, fun | 23 => 94 | 26 => 9 | 3 => 20 | 28 => 159 | 0 => 0 | 27 => 158 | 33 => 29 | 4 => 4 | n => n, fun | n => n⟩
theorem Tryd.keys100 : Go.Proofs.SlLaysZ.n7 Tryd.prog Tryd.keys100_ren := {
  mixed := by kernel_rfl
  f7 := ⟨Tryd.f100.name, by decide, Tryd.func100.trans (congrArg some (by kernel_rfl))⟩
  f10 := ⟨Tryd.f112.name, by decide, Tryd.func112.trans (congrArg some (by kernel_rfl))⟩
  t0 := Tryd.underlying0
  a0 := Tryd.isAgg0
  z0 := Tryd.sizeOf0
  v0 := Tryd.zeroValue0
  t4 := Tryd.underlying4
  a4 := Tryd.isAgg4
  z4 := Tryd.sizeOf4
  v4 := Tryd.zeroValue4
  t23 := Tryd.underlying94
  a23 := Tryd.isAgg94
  z23 := Tryd.sizeOf94
  v23 := Tryd.zeroValue94
  t26 := Tryd.underlying9
  a26 := Tryd.isAgg9
  z26 := Tryd.sizeOf9
  v26 := Tryd.zeroValue9
  t27 := Tryd.underlying158
  a27 := Tryd.isAgg158
  z27 := Tryd.sizeOf158
  v27 := Tryd.zeroValue158
  t28 := Tryd.underlying159
  a28 := Tryd.isAgg159
  z28 := Tryd.sizeOf159
  v28 := Tryd.zeroValue159
  t33 := Tryd.underlying29
  a33 := Tryd.isAgg29
  z33 := Tryd.sizeOf29
  v33 := Tryd.zeroValue29 }
def Tryd.sorted99_ren : Go.Shelf.Ren := ⟨fun | 6 => 99 | 8 => 110 | 9 => 111 | 11 => 121 | 13 => 123 | 12 => 122 | 23 => 139 | 24 => 140 | 14 => 130 | 15 => 131 | 16 => 132 | 17 => 133 | 18 => 134 | 19 => 135 | 20 => 136 | 21 => 137 | 22 => 138 | 25 => 150 | 26 => 151 | 27 => 152 | 28 => 153 | 29 => 154 | 30 => 155 | 31 => 161 | n => n, fun | 26 => 9 | 28 => 159 | 24 => 24 | 0 => 0 | 3 => 3 | 37 => 71 | 48 => 186 | 50 => 107 | 4 => 4 | 40 => 180 | 39 => 179 | 45 => 98 | 5 => 5 | 9 => 9 | 51 => 190 | 55 => 194 | 57 => 198 | 58 => 199 | 33 => 29 | n => n, fun | n => n⟩
theorem Tryd.sorted99 : Go.Proofs.SlLaysZ.n6 Tryd.prog Tryd.sorted99_ren := {
  mixed := by kernel_rfl
  f6 := ⟨Tryd.f99.name, by decide, Tryd.func99.trans (congrArg some (by kernel_rfl))⟩
  f8 := ⟨Tryd.f110.name, by decide, Tryd.func110.trans (congrArg some (by kernel_rfl))⟩
  f11 := ⟨Tryd.f121.name, by decide, Tryd.func121.trans (congrArg some (by kernel_rfl))⟩
  t0 := Tryd.underlying0
  a0 := Tryd.isAgg0
  z0 := Tryd.sizeOf0
  v0 := Tryd.zeroValue0
  t24 := Tryd.underlying24
  a24 := Tryd.isAgg24
  z24 := Tryd.sizeOf24
  v24 := Tryd.zeroValue24
  t26 := Tryd.underlying9
  a26 := Tryd.isAgg9
  z26 := Tryd.sizeOf9
  v26 := Tryd.zeroValue9
  t28 := Tryd.underlying159
  a28 := Tryd.isAgg159
  z28 := Tryd.sizeOf159
  v28 := Tryd.zeroValue159
  i26 := by kernel_rfl }
def Tryd.sort111_ren : Go.Shelf.Ren := ⟨fun | 6 => 111 | 8 => 123 | 9 => 122 | 19 => 139 | 20 => 140 | 21 => 130 | 22 => 131 | 23 => 132 | 24 => 133 | 25 => 134 | 26 => 135 | 27 => 136 | 28 => 137 | 29 => 138 | 36 => 150 | 31 => 151 | 32 => 152 | 37 => 153 | 38 => 154 | 39 => 155 | 41 => 161 | n => n, fun | 27 => 24 | 29 => 9 | 3 => 3 | 32 => 71 | 26 => 24 | 0 => 0 | 44 => 186 | 46 => 107 | 4 => 4 | 36 => 180 | 35 => 179 | 41 => 98 | 5 => 5 | 9 => 9 | 53 => 190 | 57 => 194 | 63 => 198 | 64 => 199 | n => n, fun | n => n⟩
theorem Tryd.sort111 : Go.Proofs.SlLaysM.n6 Tryd.prog Tryd.sort111_ren := {
  mixed := by kernel_rfl
  f6 := ⟨Tryd.f111.name, by decide, Tryd.func111.trans (congrArg some (by kernel_rfl))⟩
  f8 := Tryd.func123.trans (congrArg some (by kernel_rfl))
  f9 := ⟨Tryd.f122.name, by decide, Tryd.func122.trans (congrArg some (by kernel_rfl))⟩
  f19 := Tryd.func139.trans (congrArg some (by kernel_rfl))
  f20 := Tryd.func140.trans (congrArg some (by kernel_rfl))
  f21 := ⟨Tryd.f130.name, by decide, Tryd.func130.trans (congrArg some (by kernel_rfl))⟩
  f22 := ⟨Tryd.f131.name, by decide, Tryd.func131.trans (congrArg some (by kernel_rfl))⟩
  f23 := ⟨Tryd.f132.name, by decide, Tryd.func132.trans (congrArg some (by kernel_rfl))⟩
  f24 := ⟨Tryd.f133.name, by decide, Tryd.func133.trans (congrArg some (by kernel_rfl))⟩
  f25 := ⟨Tryd.f134.name, by decide, Tryd.func134.trans (congrArg some (by kernel_rfl))⟩
  f26 := ⟨Tryd.f135.name, by decide, Tryd.func135.trans (congrArg some (by kernel_rfl))⟩
  f27 := ⟨Tryd.f136.name, by decide, Tryd.func136.trans (congrArg some (by kernel_rfl))⟩
  f28 := ⟨Tryd.f137.name, by decide, Tryd.func137.trans (congrArg some (by kernel_rfl))⟩
  f29 := ⟨Tryd.f138.name, by decide, Tryd.func138.trans (congrArg some (by kernel_rfl))⟩
  f31 := Tryd.func151.trans (congrArg some (by kernel_rfl))
  f32 := Tryd.func152.trans (congrArg some (by kernel_rfl))
  f36 := ⟨Tryd.f150.name, by decide, Tryd.func150.trans (congrArg some (by kernel_rfl))⟩
  f37 := ⟨Tryd.f153.name, by decide, Tryd.func153.trans (congrArg some (by kernel_rfl))⟩
  f38 := ⟨Tryd.f154.name, by decide, Tryd.func154.trans (congrArg some (by kernel_rfl))⟩
  f39 := ⟨Tryd.f155.name, by decide, Tryd.func155.trans (congrArg some (by kernel_rfl))⟩
  f41 := ⟨Tryd.f161.name, by decide, Tryd.func161.trans (congrArg some (by kernel_rfl))⟩
  t0 := Tryd.underlying0
  a0 := Tryd.isAgg0
  z0 := Tryd.sizeOf0
  v0 := Tryd.zeroValue0
  t3 := Tryd.underlying3
  a3 := Tryd.isAgg3
  z3 := Tryd.sizeOf3
  v3 := Tryd.zeroValue3
  t4 := Tryd.underlying4
  a4 := Tryd.isAgg4
  z4 := Tryd.sizeOf4
  v4 := Tryd.zeroValue4
  t5 := Tryd.underlying5
  a5 := Tryd.isAgg5
  z5 := Tryd.sizeOf5
  v5 := Tryd.zeroValue5
  t9 := Tryd.underlying9
  a9 := Tryd.isAgg9
  z9 := Tryd.sizeOf9
  v9 := Tryd.zeroValue9
  t26 := Tryd.underlying24
  a26 := Tryd.isAgg24
  z26 := Tryd.sizeOf24
  v26 := Tryd.zeroValue24
  t27 := Tryd.underlying24
  a27 := Tryd.isAgg24
  z27 := Tryd.sizeOf24
  v27 := Tryd.zeroValue24
  t29 := Tryd.underlying9
  a29 := Tryd.isAgg9
  z29 := Tryd.sizeOf9
  v29 := Tryd.zeroValue9
  t32 := Tryd.underlying71
  a32 := Tryd.isAgg71
  z32 := Tryd.sizeOf71
  v32 := Tryd.zeroValue71
  t35 := Tryd.underlying179
  a35 := Tryd.isAgg179
  z35 := Tryd.sizeOf179
  v35 := Tryd.zeroValue179
  t36 := Tryd.underlying180
  a36 := Tryd.isAgg180
  z36 := Tryd.sizeOf180
  v36 := Tryd.zeroValue180
  t41 := Tryd.underlying98
  a41 := Tryd.isAgg98
  z41 := Tryd.sizeOf98
  v41 := Tryd.zeroValue98
  t44 := Tryd.underlying186
  a44 := Tryd.isAgg186
  z44 := Tryd.sizeOf186
  v44 := Tryd.zeroValue186
  t46 := Tryd.underlying107
  a46 := Tryd.isAgg107
  z46 := Tryd.sizeOf107
  v46 := Tryd.zeroValue107
  t53 := Tryd.underlying190
  a53 := Tryd.isAgg190
  z53 := Tryd.sizeOf190
  v53 := Tryd.zeroValue190
  t57 := Tryd.underlying194
  a57 := Tryd.isAgg194
  z57 := Tryd.sizeOf194
  v57 := Tryd.zeroValue194
  t63 := Tryd.underlying198
  a63 := Tryd.isAgg198
  z63 := Tryd.sizeOf198
  v63 := Tryd.zeroValue198
  t64 := Tryd.underlying199
  a64 := Tryd.isAgg199
  z64 := Tryd.sizeOf199
  v64 := Tryd.zeroValue199 }
open Go.RowKit Go.Maps Go.Sort Go.Shelf in
/-- slices.Sort's two contracts at this dump, at the fence that asks nothing. -/
theorem Tryd.sorts99 (m : Nat) : AnyZ.SortsIn Tryd.prog Tryd.sorted99_ren Fence.wide m :=
  ⟨fun blk off cap ss W hH hblk hsz => callsIn_wide.2 (AnyM.slices_Sort_string Tryd.sort111 blk off cap ss W hH hblk hsz),
   fun p cap W => callsIn_wide.2 (AnyM.slices_Sort_string_none Tryd.sort111 p cap W)⟩
open Go.RowKit Go.Maps Go.Sort Go.Shelf in
/-- **maps.Keys[map[string]any,string,any], at whatever map, the nil one too:** a function value over ONE NEW BLOCK, which holds the map. -/
theorem Tryd.maps_Keys_100 (mb : Option Nat) (W : World) : CallsIn Fence.wide 5 Tryd.prog 100 #[.map mb] W fun e w' => e = .returned (.func (.func 112) #[] #[.pointer (some ⟨W.heap.size, 0, none⟩)]) ∧ w' = W.alloc (.cells #[.map mb] 94) :=
  AnyZ.keys_in Tryd.keys100 Fence.wide 5 trivial rfl mb W
open Go.RowKit Go.Maps Go.Sort Go.Shelf in
/-- **slices.Sorted[string] AT WHAT maps.Keys[map[string]any,string,any] HANDED BACK FOR A MAP THAT IS NOT nil** ('w': the world AHEAD of maps.Keys' call): A NEW SLICE THAT HOLDS THE MAP's KEYS, SORTED; nil just where it has none; nothing that lay before has turned. -/
theorem Tryd.slices_Sorted_keys_99_100 {H : Type} (b nn : Nat) (D0 : DataW H) (R : Value → Option (DataW H × List MemPlace)) (w : World) (hown : w.ownsMap Tryd.prog 9 R b nn D0) (hmax : Maps.size D0 ≤ maxLen) (hbytes : Maps.size D0 * 16 ≤ 140737488355328) :
    CallsIn Fence.wide 5 Tryd.prog 99 #[.func (.func 112) #[] #[.pointer (some ⟨w.heap.size, 0, none⟩)]] (w.alloc (.cells #[.map (some b)] 94)) fun e w' => ∃ (v : Value) (ss : List (List UInt8)), e = .returned v ∧ ss.Perm (strKeys D0) ∧
      w'.ownsRow (w.alloc (.cells #[.map (some b)] 94)).heap.size 9 1 v ss.length ((ss.mergeSort (fun x y => decide (x ≤ y))).map encStr) ∧ (v = .slice none 0 0 ↔ ss = []) ∧ Below (w.alloc (.cells #[.map (some b)] 94)).heap.size (w.alloc (.cells #[.map (some b)] 94)) w' := by
  have hbl := hown.lt
  have hseq : SeqGives Fence.wide 2 Tryd.prog 112 #[.pointer (some ⟨w.heap.size, 0, none⟩)] encStr (fun ss => ss.Perm (strKeys D0)) (Maps.size D0) (w.alloc (.cells #[.map (some b)] 94)) :=
    AnyZ.keys_gives (ρ := Tryd.keys100_ren) { Tryd.keys100 with } Fence.wide _ trivial rfl (by omega) w.heap.size b nn D0 _ (by simp) (by simp) (by
      obtain ⟨es, clock, hb, Ft, hs, hD⟩ := hown
      exact ⟨es, clock, (Below.heap_alloc _ _ b hbl).trans hb, Ft, hs, hD⟩)
  exact AnyZ.sorted_in Tryd.sorted99 Fence.wide 5 trivial trivial trivial trivial rfl (by omega) (Tryd.sorts99 _) (enters_of Tryd.func111 (by kernel_rfl) rfl) 112 #[.pointer (some ⟨w.heap.size, 0, none⟩)] trivial (enters_of Tryd.func112 (by kernel_rfl) rfl) _ _ hmax hbytes _ hseq
open Go.RowKit Go.Maps Go.Sort Go.Shelf in
/-- **.. AND FOR THE nil MAP: nil.** -/
theorem Tryd.slices_Sorted_keys_nil_99_100 (w : World) :
    CallsIn Fence.wide 5 Tryd.prog 99 #[.func (.func 112) #[] #[.pointer (some ⟨w.heap.size, 0, none⟩)]] (w.alloc (.cells #[.map none] 94)) fun e w' => ∃ (v : Value) (ss : List (List UInt8)), e = .returned v ∧ ss = [] ∧
      w'.ownsRow (w.alloc (.cells #[.map none] 94)).heap.size 9 1 v ss.length ((ss.mergeSort (fun x y => decide (x ≤ y))).map encStr) ∧ (v = .slice none 0 0 ↔ ss = []) ∧ Below (w.alloc (.cells #[.map none] 94)).heap.size (w.alloc (.cells #[.map none] 94)) w' := by
  have hseq : SeqGives Fence.wide 2 Tryd.prog 112 #[.pointer (some ⟨w.heap.size, 0, none⟩)] encStr (fun ss : List (List UInt8) => ss = []) 0 (w.alloc (.cells #[.map none] 94)) :=
    AnyZ.keys_gives_nil (ρ := Tryd.keys100_ren) { Tryd.keys100 with } Fence.wide _ trivial rfl w.heap.size _ (by simp) (by simp)
  exact AnyZ.sorted_in Tryd.sorted99 Fence.wide 5 trivial trivial trivial trivial rfl (by omega) (Tryd.sorts99 _) (enters_of Tryd.func111 (by kernel_rfl) rfl) 112 #[.pointer (some ⟨w.heap.size, 0, none⟩)] trivial (enters_of Tryd.func112 (by kernel_rfl) rfl) _ 0 (Nat.zero_le _) (by omega) _ hseq
end Go.Proofs
