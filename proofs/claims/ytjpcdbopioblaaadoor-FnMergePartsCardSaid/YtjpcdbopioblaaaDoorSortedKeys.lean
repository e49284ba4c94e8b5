/- The sorted keys of a map of the program's: as they were. -/
import Derived.Test.YtjpcdbopioblaaaDoorIter
import Derived.Test.YtjpcdbopioblaaaDoorMapGet
namespace Go.Proofs.YtjpcdbopioblaaaDoor
open Go.RowKit Go.WideMaps Go.Maps

theorem strKeys_mapD (ks : List ByteArray) (xs : List Value) (hl : xs.length = ks.length) : strKeys (mapD ks xs) = ks.map fun k => k.data.toList := by
  unfold mapD strKeys
  simp only [List.map_map]
  induction ks generalizing xs with
  | nil => simp
  | cons k ks ih =>
    cases xs with
    | nil => simp at hl
    | cons x xs => simp only [List.zip_cons_cons, List.map_cons]; rw [ih xs (by simpa using hl)]; rfl

theorem sorted_keys (ks : List ByteArray) (hu : KeysUp ks) (ss : List (List UInt8)) (h : ss.Perm (ks.map fun k => k.data.toList)) : ss.mergeSort (fun x y => decide (x ≤ y)) = ks.map fun k => k.data.toList := by
  have hp : List.Pairwise (fun a b : List UInt8 => decide (a ≤ b) = true) (ss.mergeSort fun x y => decide (x ≤ y)) :=
    List.pairwise_mergeSort (fun a b c h1 h2 => by
      simp only [decide_eq_true_eq] at *; exact List.le_trans h1 h2) (fun a b => by
      simp only [Bool.or_eq_true, decide_eq_true_eq]; exact List.le_total a b) ss
  have hk : List.Pairwise (fun a b : List UInt8 => decide (a ≤ b) = true) (ks.map fun k => k.data.toList) := by
    refine List.pairwise_iff_getElem.2 fun a b ha hb hab => ?_
    simp only [List.length_map] at ha hb
    simp only [List.getElem_map, decide_eq_true_eq]
    have hlt := hu.lt' hab hb
    rw [ByteArray.toList_eq, ByteArray.toList_eq, bytesLess_eq] at hlt
    simp only [decide_eq_true_eq] at hlt
    exact List.le_of_lt hlt
  exact List.Perm.eq_of_pairwise (fun a b _ _ h1 h2 => by simp only [decide_eq_true_eq] at h1 h2; exact List.le_antisymm h1 h2) hp hk ((List.mergeSort_perm ss _).trans h)

theorem size_mapD (ks : List ByteArray) (xs : List Value) (hl : xs.length = ks.length) : Maps.size (mapD ks xs) = ks.length := by
  unfold mapD Maps.size
  simp [hl]

/-- What the two calls of the library give: a row of the map's keys, rising. -/
theorem keys_call (mb : Option Nat) (W : World) : Calls Tryd.prog 100 #[.map mb] W fun e w' => e = .returned (.func (.func 112) #[] #[.pointer (some ⟨W.heap.size, 0, none⟩)]) ∧ w' = W.alloc (.cells #[.map mb] 94) :=
  callsIn_wide.1 (Go.Proofs.Tryd.maps_Keys_100 mb W)
theorem sorted_call (r n : Nat) (ks : List ByteArray) (xs : List Value) (w : World) (hm : w.ownsMap Tryd.prog 9 heldR r n (mapD ks xs)) (hl : xs.length = ks.length) (hu : KeysUp ks) (hs : ks.length ≤ 100000) :
    Calls Tryd.prog 99 #[.func (.func 112) #[] #[.pointer (some ⟨w.heap.size, 0, none⟩)]] (w.alloc (.cells #[.map (some r)] 94)) fun e w' =>
      ∃ v, e = .returned v ∧ w'.ownsRow (w.heap.size + 1) 9 1 v ks.length (ks.map fun k => Value.string k) ∧ Below (w.heap.size + 1) (w.alloc (.cells #[.map (some r)] 94)) w' := by
  have hz := size_mapD ks xs hl
  refine (callsIn_wide.1 (Go.Proofs.Tryd.slices_Sorted_keys_99_100 r n (mapD ks xs) heldR w hm (by rw [hz]; unfold maxLen; omega) (by rw [hz]; omega))).mono fun e w' ⟨v, ss, he, hp, hrow, _, hb⟩ => ⟨v, he, ?_, by simpa using hb⟩
  rw [strKeys_mapD ks xs hl] at hp
  have hlen : ss.length = ks.length := by rw [hp.length_eq]; simp
  rw [sorted_keys ks hu ss hp, hlen] at hrow
  have e : (ks.map fun k => k.data.toList).map encStr = ks.map fun k => Value.string k := by
    rw [List.map_map]
    refine List.map_congr_left fun k _ => ?_
    rfl
  rw [e] at hrow
  simpa using hrow
end Go.Proofs.YtjpcdbopioblaaaDoor
