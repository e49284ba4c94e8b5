/- A string's JSON text, byte by byte: no walk in this text. -/
import Derived.Test.YtjpcdbopioblaaaDoorEncPlain
namespace Go.Proofs.YtjpcdbopioblaaaDoor
open Go.RowKit

/-- The text is the string's JSON text. -/
def IsEnc (s src : ByteArray) : Prop := src.data.toList = 34 :: s.data.toList.flatMap encB ++ [34]
/-- Where the string's byte i stands in it. -/
def posE (s : ByteArray) (i : Nat) : Nat := 1 + ((s.data.toList.take i).flatMap encB).length

theorem ba_at {s : ByteArray} {i : Nat} (h : i < s.size) : s.data.toList[i]'(by simpa using h) = s[i] := rfl
theorem encB_pos (c : UInt8) : 0 < (encB c).length := by unfold encB; repeat' split
                                                         all_goals simp
theorem encB_len (c : UInt8) : (encB c).length ≤ 6 := by unfold encB; repeat' split
                                                         all_goals simp
theorem posE_zero (s : ByteArray) : posE s 0 = 1 := by simp [posE]
theorem posE_succ {s : ByteArray} {i : Nat} (hi : i < s.size) : posE s (i + 1) = posE s i + (encB s[i]).length := by
  unfold posE
  rw [List.take_succ_eq_append_getElem (by simpa using hi), ba_at hi, List.flatMap_append, List.length_append]
  simp [Nat.add_assoc]
theorem IsEnc.split {s src : ByteArray} (h : IsEnc s src) {i : Nat} (hi : i < s.size) : src.data.toList = (34 :: (s.data.toList.take i).flatMap encB) ++ (encB s[i] ++ ((s.data.toList.drop (i + 1)).flatMap encB ++ [34])) := by
  have e : s.data.toList = s.data.toList.take i ++ s[i] :: s.data.toList.drop (i + 1) := by
    rw [← ba_at hi, ← List.drop_eq_getElem_cons, List.take_append_drop]
  unfold IsEnc at h
  rw [h]
  conv => lhs; rw [e]
  simp
theorem IsEnc.at {s src : ByteArray} (h : IsEnc s src) {i : Nat} (hi : i < s.size) (j : Nat) (hj : j < (encB s[i]).length) : ∃ hlt : posE s i + j < src.size, src[posE s i + j] = (encB s[i])[j] := by
  have e := h.split hi
  have el := congrArg List.length e
  have e2 : src.data.toList.length = src.size := Array.length_toList
  have e3 : (34 :: (s.data.toList.take i).flatMap encB).length = posE s i := by simp [posE, Nat.add_comm]
  rw [e2, List.length_append, List.length_append, e3] at el
  have hlt : posE s i + j < src.size := by omega
  refine ⟨hlt, ?_⟩
  rw [← ba_at hlt]
  have g : src.data.toList[posE s i + j]? = some (encB s[i])[j] := by
    rw [e, List.getElem?_append_right (by rw [e3]; omega), e3, Nat.add_sub_cancel_left, List.getElem?_append_left hj, List.getElem?_eq_getElem hj]
  exact (List.getElem?_eq_some_iff.1 g).2
theorem IsEnc.size {s src : ByteArray} (h : IsEnc s src) : src.size = posE s s.size + 1 := by
  have el := congrArg List.length h
  have e2 : src.data.toList.length = src.size := Array.length_toList
  rw [e2] at el
  unfold posE
  rw [List.take_of_length_le (by rw [Array.length_toList]; exact Nat.le_refl _), el]
  simp [Nat.add_comm]
theorem IsEnc.last {s src : ByteArray} (h : IsEnc s src) : ∃ hlt : posE s s.size < src.size, src[posE s s.size] = 34 := by
  have hlt : posE s s.size < src.size := by rw [h.size]; omega
  refine ⟨hlt, ?_⟩
  rw [← ba_at hlt]
  have e3 : (34 :: s.data.toList.flatMap encB).length = posE s s.size := by
    unfold posE
    rw [List.take_of_length_le (by rw [Array.length_toList]; exact Nat.le_refl _)]
    simp [Nat.add_comm]
  have g : src.data.toList[posE s s.size]? = some 34 := by
    unfold IsEnc at h
    rw [h, List.getElem?_append_right (by rw [e3]; omega), e3]
    simp
  exact (List.getElem?_eq_some_iff.1 g).2
theorem IsEnc.first {s src : ByteArray} (h : IsEnc s src) : ∃ hlt : 0 < src.size, src[0] = 34 := by
  have hlt : 0 < src.size := by rw [h.size]; omega
  refine ⟨hlt, ?_⟩
  rw [← ba_at hlt]
  have g : src.data.toList[0]? = some 34 := by
    unfold IsEnc at h
    rw [h]; rfl
  exact (List.getElem?_eq_some_iff.1 g).2
theorem posE_le {s src : ByteArray} (h : IsEnc s src) {i : Nat} (hi : i < s.size) : posE s i + (encB s[i]).length < src.size := by
  have el := congrArg List.length (h.split hi)
  have e2 : src.data.toList.length = src.size := Array.length_toList
  have e3 : (34 :: (s.data.toList.take i).flatMap encB).length = posE s i := by simp [posE, Nat.add_comm]
  rw [e2, List.length_append, List.length_append, e3, List.length_append] at el
  simp only [List.length_cons, List.length_nil] at el
  omega
theorem ba_one (s : ByteArray) (i : Nat) (h : i < s.size) : s.extract i (i + 1) = ⟨#[s[i]]⟩ := by
  apply ByteArray.ext
  apply Array.toList_inj.1
  rw [ByteArray.data_extract, Array.toList_extract, List.extract_eq_drop_take', List.take_succ_eq_append_getElem (by simpa using h), ba_at h, List.drop_append_of_le_length (by simp; omega)]
  simp
theorem ba_snoc (s : ByteArray) (i : Nat) (h : i < s.size) : s.extract 0 i ++ ⟨#[s[i]]⟩ = s.extract 0 (i + 1) := by
  rw [← ba_one s i h]
  apply ByteArray.ext
  apply Array.toList_inj.1
  simp only [ByteArray.data_append, ByteArray.data_extract, Array.toList_append, Array.toList_extract, List.extract_eq_drop_take', List.drop_zero]
  rw [List.take_succ_eq_append_getElem (by simpa using h), List.drop_append_of_le_length (by simp; omega)]
  simp
theorem hexL_lo {k : Nat} (h : k < 10) : (hexL k).toNat = 48 + k := by unfold hexL; rw [if_pos h]; exact UInt8.toNat_ofNat_of_lt' (by show _ < 256; omega)
theorem hexL_hi {k : Nat} (h : ¬ k < 10) (h2 : k < 16) : (hexL k).toNat = 87 + k := by unfold hexL; rw [if_neg h]; exact UInt8.toNat_ofNat_of_lt' (by show _ < 256; omega)
/-- What a byte that does not stand as itself is written as: behind the backslash a quote, a backslash, a letter, or u and four digits. -/
theorem encB_cases (c : UInt8) (h : ¬ plainB c) : (c = 34 ∧ encB c = [92, 34]) ∨ (c = 92 ∧ encB c = [92, 92]) ∨ (c = 8 ∧ encB c = [92, 98]) ∨ (c = 12 ∧ encB c = [92, 102]) ∨ (c = 10 ∧ encB c = [92, 110]) ∨ (c = 13 ∧ encB c = [92, 114]) ∨ (c = 9 ∧ encB c = [92, 116]) ∨
    (c.toNat < 128 ∧ encB c = [92, 117, 48, 48, hexL (c.toNat / 16), hexL (c.toNat % 16)]) := by
  by_cases e1 : c = 34; · exact .inl ⟨e1, by rw [e1]; rfl⟩
  by_cases e2 : c = 92; · exact .inr (.inl ⟨e2, by rw [e2]; rfl⟩)
  by_cases e3 : c = 8; · exact .inr (.inr (.inl ⟨e3, by rw [e3]; rfl⟩))
  by_cases e4 : c = 12; · exact .inr (.inr (.inr (.inl ⟨e4, by rw [e4]; rfl⟩)))
  by_cases e5 : c = 10; · exact .inr (.inr (.inr (.inr (.inl ⟨e5, by rw [e5]; rfl⟩))))
  by_cases e6 : c = 13; · exact .inr (.inr (.inr (.inr (.inr (.inl ⟨e6, by rw [e6]; rfl⟩)))))
  by_cases e7 : c = 9; · exact .inr (.inr (.inr (.inr (.inr (.inr (.inl ⟨e7, by rw [e7]; rfl⟩))))))
  refine .inr (.inr (.inr (.inr (.inr (.inr (.inr ?_))))))
  have n : ∀ m : UInt8, c ≠ m → c.toNat ≠ m.toNat := fun m e e2 => e (UInt8.toNat_inj.1 e2)
  have n1 := n 34 e1
  have n2 := n 92 e2
  have hc : c.toNat < 32 ∨ c.toNat = 127 := Classical.byContradiction fun hh => h ⟨by omega, by omega, n1, n2⟩
  exact ⟨by omega, encB_ctl c hc n1 n2 (n 8 e3) (n 12 e4) (n 10 e5) (n 13 e6) (n 9 e7)⟩
end Go.Proofs.YtjpcdbopioblaaaDoor
