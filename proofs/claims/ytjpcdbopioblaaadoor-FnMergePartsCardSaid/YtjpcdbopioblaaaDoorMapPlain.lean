/- Maps by their keys: plain laws, no walk. -/
import Derived.Test.YtjpcdbopioblaaaDoorGoRep
namespace Go.Proofs.YtjpcdbopioblaaaDoor
open Go.RowKit

theorem before_eq : ∀ (a b : List UInt8), bytesBefore a b = Op.bytesLess a b
  | [], [] => rfl
  | [], _ :: _ => rfl
  | _ :: _, [] => rfl
  | a :: r, b :: s => by simp only [bytesBefore, Op.bytesLess, before_eq r s]

theorem less_trans (a b c : List UInt8) (h1 : Op.bytesLess a b = true) (h2 : Op.bytesLess b c = true) : Op.bytesLess a c = true := by
  rw [← before_eq] at *; exact WideShapes.bytes_trans a b c h1 h2
theorem less_irrefl (a : List UInt8) : Op.bytesLess a a = false := by rw [← before_eq]; exact WideAt.bytes_irrefl a
theorem less_total (a b : List UInt8) (h : a ≠ b) : Op.bytesLess a b = true ∨ Op.bytesLess b a = true := by
  rw [← before_eq, ← before_eq]; exact WideAt.bytes_total a b h

theorem KeysUp.lt {ks : List ByteArray} (h : KeysUp ks) : ∀ (d i : Nat) (hj : i + d + 1 < ks.length), Op.bytesLess (ks[i]'(by omega)).toList ks[i + d + 1].toList = true
  | 0, i, hj => h i hj
  | d + 1, i, hj => less_trans _ _ _ (h.lt d i (by omega)) (h (i + d + 1) hj)
theorem KeysUp.lt' {ks : List ByteArray} (h : KeysUp ks) {i j : Nat} (hij : i < j) (hj : j < ks.length) : Op.bytesLess (ks[i]'(by omega)).toList ks[j].toList = true := by
  obtain ⟨d, rfl⟩ : ∃ d, j = i + d + 1 := ⟨j - i - 1, by omega⟩
  exact h.lt d i hj

theorem insert_last {H : Type} (x : Lit × DataW H) : ∀ (l : List (Lit × DataW H)), (∀ y ∈ l, x.1.before y.1 = false) → DataW.insert x l = l ++ [x]
  | [], _ => rfl
  | y :: r, h => by
    unfold DataW.insert
    rw [if_neg (by simp [h y (by simp)]), insert_last x r fun z hz => h z (by simp [hz])]
    rfl

/-- A key behind all others is put at the end. -/
theorem mapD_put (ks : List ByteArray) (xs : List Value) (key : ByteArray) (x : Value) (hl : xs.length = ks.length) (hk : ∀ y ∈ ks, Op.bytesLess y.toList key.toList = true) :
    (mapD ks xs).put (.string key.data.toList) (.held x) = mapD (ks ++ [key]) (xs ++ [x]) := by
  unfold mapD DataW.put
  simp only
  have hne : ∀ y ∈ ks, y.data.toList ≠ key.data.toList := by
    intro y hy e
    have := hk y hy
    rw [ByteArray.toList_eq, ByteArray.toList_eq, e, less_irrefl] at this
    cases this
  have hf : ((ks.zip xs).map fun p => ((Lit.string p.1.data.toList, DataW.held p.2) : Lit × DataW Value)).filter (fun p => !p.1.sameKey (.string key.data.toList)) = (ks.zip xs).map fun p => (Lit.string p.1.data.toList, DataW.held p.2) := by
    rw [List.filter_eq_self]
    intro p hp
    obtain ⟨q, hq, rfl⟩ := List.mem_map.1 hp
    have := hne q.1 (List.of_mem_zip hq).1
    simpa [Lit.sameKey] using this
  rw [hf, insert_last]
  · rw [List.zip_append hl.symm]
    simp
  · intro y hy
    obtain ⟨q, hq, rfl⟩ := List.mem_map.1 hy
    have h1 := hk q.1 (List.of_mem_zip hq).1
    rw [ByteArray.toList_eq, ByteArray.toList_eq] at h1
    simp only [Lit.before]
    rw [before_eq]
    cases h2 : Op.bytesLess key.data.toList q.1.data.toList
    · rfl
    · have := less_trans _ _ _ h1 h2
      rw [less_irrefl] at this
      cases this

theorem RV.GoV.snoc {w : World} {base : Nat} : ∀ {l : List RV} {xs : List Value} {y : RV} {x : Value}, RV.GoV w base xs l → y.Go w base x → RV.GoV w base (xs ++ [x]) (l ++ [y])
  | [], _, y, x, h, hy => by
    unfold RV.GoV at h
    subst h
    simp only [List.nil_append]
    unfold RV.GoV
    exact ⟨x, [], rfl, hy, by unfold RV.GoV; rfl⟩
  | z :: l, xs, y, x, h, hy => by
    unfold RV.GoV at h
    obtain ⟨u, r, rfl, hu, h2⟩ := h
    simp only [List.cons_append]
    unfold RV.GoV
    exact ⟨u, r ++ [x], rfl, hu, RV.GoV.snoc h2 hy⟩
end Go.Proofs.YtjpcdbopioblaaaDoor
