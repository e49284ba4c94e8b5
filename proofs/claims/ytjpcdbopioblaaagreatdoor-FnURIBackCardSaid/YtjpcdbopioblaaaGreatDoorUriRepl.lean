/- zzIndex and zzReplaceAll walked, at the sign '+'. -/
import Derived.Test.YtjpcdbopioblaaaGreatDoorByteRow
import Derived.Test.YtjpcdbopioblaaaGreatDoorLook
namespace Go.Proofs.YtjpcdbopioblaaaGreatDoor
open Go.RowKit

theorem one_byte (s : ByteArray) (i : Nat) (h : i < s.size) : s.extract i (i + 1) = ⟨#[s[i]]⟩ := by
  have e0 : s.data.toList[i]'(by simpa using h) = s[i] := rfl
  apply ByteArray.ext
  apply Array.toList_inj.1
  rw [ByteArray.data_extract, Array.toList_extract, List.extract_eq_drop_take', List.take_succ_eq_append_getElem (by simpa using h), e0, List.drop_append_of_le_length (by simp; omega)]
  simp

def IdxPost (s : ByteArray) (w : World) (e : Ending) (w' : World) : Prop := w' = w ∧ ((e = .returned (.int .i64 (-1)) ∧ ∀ j (h : j < s.size), s[j] ≠ 43) ∨ ∃ i, ∃ h : i < s.size, e = .returned (.int .i64 i) ∧ s[i] = 43 ∧ ∀ j (_ : j < i) (h2 : j < s.size), s[j] ≠ 43)

set_option maxRecDepth 100000 in
set_option maxHeartbeats 800000 in
theorem zzIndex_any (s : ByteArray) (w : World) (hs : s.size ≤ 140737488355328) : Calls Tryz.prog 165 #[.string s, .string ⟨#[43]⟩] w (IdxPost s w) := by
  unfold IdxPost
  go_enter Tryz.func165, Tryz.ntmps165
  go_wp2_with fail
  go_loopg [5] (s.size) (fun gk s5 wr => ∃ i : Nat, s5 = .int .i64 i ∧ i ≤ s.size ∧ gk = s.size - i ∧ wr = w ∧ Hid (∀ j (h : j < i) (h2 : j < s.size), s[j] ≠ 43))
  case atStart => exact ⟨0, rfl, Nat.zero_le _, rfl, rfl, Lib.hid fun j h => absurd h (Nat.not_lt_zero _)⟩
  case round =>
    obtain ⟨i, rfl, hi, rfl, rfl, HI⟩ := hrel
    by_cases hlt : i < s.size
    · have hj : (i : Int) + 1 ≤ (s.size : Int) := by omega
      have hx := one_byte s i hlt
      have hz : ((i : Int) + 1).toNat = i + 1 := by omega
      have hz1 : (i : Int) ≤ (i : Int) + 1 := by omega
      have hw : IntKind.i64.wrap (i : Int) = (i : Int) := IntWalk.i64_in _ (by omega)
      by_cases hc : s[i] = 43
      · have hb : (s[i] == 43) = true := by simp [hc]
        have HC := Lib.hid hc
        clear hc
        go_wp2_with fail
        go_ret
        exact ⟨rfl, .inr ⟨i, hlt, rfl, HC.out, fun j h h2 => HI.out j h h2⟩⟩
      · have hb : (s[i] == 43) = false := by simp [hc]
        have HC := Lib.hid hc
        clear hc
        go_wp2_with fail
        go_roundg (s.size - (i + 1))
        case measure => omega
        case rel => exact ⟨i + 1, by go_num, by omega, rfl, rfl, Lib.hid fun j h h2 => by
          rcases Nat.lt_or_ge j i with h3 | h3
          · exact HI.out j h3 h2
          · obtain rfl : j = i := by omega
            exact HC.out⟩
    · obtain rfl : i = s.size := by omega
      have hj : ¬ ((s.size : Int) + 1 ≤ (s.size : Int)) := by omega
      go_wp2_with fail
      go_ret
      exact ⟨rfl, .inl ⟨rfl, fun j h => HI.out j h h⟩⟩

/-- Each '+' replaced. -/
def plusX (new : List UInt8) (l : List UInt8) : List UInt8 := l.flatMap fun c => if c = 43 then new else [c]
theorem plusX_append (new a b : List UInt8) : plusX new (a ++ b) = plusX new a ++ plusX new b := List.flatMap_append
theorem plusX_none (new : List UInt8) : ∀ l : List UInt8, (∀ c ∈ l, c ≠ 43) → plusX new l = l
  | [], _ => rfl
  | c :: l, h => by
    have h1 := plusX_none new l fun d hd => h d (by simp [hd])
    unfold plusX at h1 ⊢
    rw [List.flatMap_cons, h1, if_neg (h c (by simp))]
    rfl
theorem plusX_len (new : List UInt8) (n : Nat) (hn : new.length ≤ n + 1) (l : List UInt8) : (plusX new l).length ≤ (n + 1) * l.length := by
  induction l with
  | nil => simp [plusX]
  | cons c l ih =>
    have h1 : (if c = 43 then new else [c]).length ≤ n + 1 := by
      split
      · omega
      · simp
    unfold plusX at ih ⊢
    rw [List.flatMap_cons, List.length_append, List.length_cons, Nat.mul_succ]
    omega

theorem ext_list (s : ByteArray) (a b : Nat) : (s.extract a b).data.toList = (s.data.toList.take b).drop a := by
  rw [ByteArray.data_extract, Array.toList_extract, List.extract_eq_drop_take', List.drop_take]
theorem ext_all (s : ByteArray) : s.extract 0 s.size = s := by
  apply ByteArray.ext
  apply Array.toList_inj.1
  rw [ext_list, List.drop_zero, List.take_of_length_le (by rw [Array.length_toList]; exact Nat.le_refl _)]
theorem ext_ext (s : ByteArray) (k i : Nat) : (s.extract k s.size).extract i (s.extract k s.size).size = s.extract (k + i) s.size := by
  have hz : (s.extract k s.size).size = s.size - k := by simp
  apply ByteArray.ext
  apply Array.toList_inj.1
  have hl : s.data.toList.length = s.size := Array.length_toList
  rw [ext_list, ext_list, ext_list, hz, List.take_of_length_le (by rw [List.length_drop, List.length_take]; omega), List.drop_drop]
theorem ext_get (s : ByteArray) (k i : Nat) (hi : i < (s.extract k s.size).size) : ∃ h : k + i < s.size, (s.extract k s.size)[i] = s[k + i] := by
  have hz : (s.extract k s.size).size = s.size - k := by simp
  have hlt : k + i < s.size := by omega
  refine ⟨hlt, ?_⟩
  have hl : s.data.toList.length = s.size := Array.length_toList
  have e1 : (s.extract k s.size).data.toList[i]? = some (s.extract k s.size)[i] := List.getElem?_eq_getElem (by rw [Array.length_toList]; exact hi)
  have e2 : s.data.toList[k + i]? = some s[k + i] := List.getElem?_eq_getElem (by rw [hl]; exact hlt)
  rw [ext_list, List.take_of_length_le (by rw [hl]; exact Nat.le_refl _), List.getElem?_drop, e2] at e1
  exact (Option.some.inj e1).symm

/-- In the loop: replaced is what stands before k. -/
structure RepS (s new : ByteArray) (w : World) (k : Nat) (v : Value) (wr : World) : Prop where
  row : BRow w.heap.size v (plusX new.data.toList (s.data.toList.take k)) wr
  below : Below w.heap.size w wr
theorem RepS.start (s new : ByteArray) (w : World) : RepS s new w 0 (.slice none 0 0) w := ⟨BRow.nil _ _, Below.refl _ _⟩
theorem take_no {s : ByteArray} {k n : Nat} (hk : k + n ≤ s.size) (h : ∀ j (_ : j < n) (h2 : k + j < s.size), s[k + j] ≠ 43) (new : List UInt8) : plusX new (s.data.toList.take (k + n)) = plusX new (s.data.toList.take k) ++ (s.data.toList.drop k).take n := by
  rw [List.take_add, plusX_append, plusX_none new ((s.data.toList.drop k).take n)]
  intro c hc
  obtain ⟨j, hj, rfl⟩ := List.mem_iff_getElem.1 hc
  have hl : s.data.toList.length = s.size := Array.length_toList
  rw [List.length_take, List.length_drop, hl] at hj
  rw [List.getElem_take, List.getElem_drop]
  exact h j (by omega) (by omega)
theorem RepS.len {s new : ByteArray} (hn : new.size ≤ 3) (k : Nat) : (plusX new.data.toList (s.data.toList.take k)).length ≤ 3 * s.size := by
  have h1 := plusX_len new.data.toList 2 (by rw [Array.length_toList]; exact hn) (s.data.toList.take k)
  have h2 : (s.data.toList.take k).length ≤ s.size := by have hl : s.data.toList.length = s.size := Array.length_toList; rw [List.length_take, hl]; omega
  omega
theorem RepS.fin {s new : ByteArray} {k : Nat} (hk : k ≤ s.size) (h : ∀ j (h : j < (s.extract k s.size).size), (s.extract k s.size)[j] ≠ 43) : plusX new.data.toList (s.data.toList.take k) ++ (s.extract k s.size).data.toList = plusX new.data.toList s.data.toList := by
  have hl : s.data.toList.length = s.size := Array.length_toList
  have hz : (s.extract k s.size).size = s.size - k := by simp
  have h1 := take_no (s := s) (k := k) (n := s.size - k) (by omega) (fun j hj h2 => by obtain ⟨h3, h4⟩ := ext_get s k j (by omega); rw [← h4]; exact h j (by omega)) new.data.toList
  have hkk : k + (s.size - k) = s.size := by omega
  have t1 : s.data.toList.take s.size = s.data.toList := List.take_of_length_le (by omega)
  have t2 : (s.data.toList.drop k).take (s.size - k) = s.data.toList.drop k := List.take_of_length_le (by rw [List.length_drop]; omega)
  rw [hkk, t1, t2] at h1
  rw [ext_list, t1, h1]
theorem RepS.next {s new : ByteArray} {k i : Nat} (hi : i < (s.extract k s.size).size) (hc : (s.extract k s.size)[i] = 43) (h : ∀ j (_ : j < i) (h2 : j < (s.extract k s.size).size), (s.extract k s.size)[j] ≠ 43) :
    (plusX new.data.toList (s.data.toList.take k) ++ ((s.extract k s.size).extract 0 i).data.toList) ++ new.data.toList = plusX new.data.toList (s.data.toList.take (k + (i + 1))) := by
  have hl : s.data.toList.length = s.size := Array.length_toList
  have hz : (s.extract k s.size).size = s.size - k := by simp
  obtain ⟨h3, h4⟩ := ext_get s k i hi
  have h1 := take_no (s := s) (k := k) (n := i) (by omega) (fun j hj h2 => by obtain ⟨h5, h6⟩ := ext_get s k j (by omega); rw [← h6]; exact h j hj (by omega)) new.data.toList
  have e0 : s.data.toList[k + i]'(by omega) = s[k + i] := rfl
  rw [← Nat.add_assoc, List.take_succ_eq_append_getElem (by omega), plusX_append, h1, e0, ← h4, hc, ext_list, ext_list, List.drop_zero, List.take_of_length_le (i := s.size) (by omega)]
  simp [plusX]

set_option maxRecDepth 100000 in
set_option maxHeartbeats 1600000 in
theorem zzReplaceAll_any (s new : ByteArray) (w : World) (hs : s.size ≤ 1000000000) (hn : new.size ≤ 3) :
    Calls Tryz.prog 139 #[.string s, .string ⟨#[43]⟩, .string new] w fun e w' => e = .returned (.string ⟨(plusX new.data.toList s.data.toList).toArray⟩) ∧ Below w.heap.size w w' := by
  have HN := Lib.hid hn
  clear hn
  go_enter Tryz.func139, Tryz.ntmps139
  go_wp2_with fail
  go_loopg [0, 7] (s.size) (fun gk s0 s7 wr => ∃ (k : Nat) (v : Value), s0 = .string (s.extract k s.size) ∧ s7 = v ∧ k ≤ s.size ∧ gk = s.size - k ∧ Hid (RepS s new w k v wr))
  case atStart => exact ⟨0, _, by rw [ext_all], rfl, Nat.zero_le _, rfl, Lib.hid (RepS.start s new w)⟩
  case round =>
    obtain ⟨k, v, rfl, rfl, hk, rfl, HR⟩ := hrel
    have hz : (s.extract k s.size).size = s.size - k := by simp
    have HX := Lib.hid (fun i => ext_ext s k i)
    have HF := Lib.hid (RepS.fin (s := s) (new := new) hk)
    have HNX := Lib.hid (fun i hi hc h => RepS.next (s := s) (new := new) (k := k) (i := i) hi hc h)
    have HL := Lib.hid (RepS.len (s := s) HN.out k)
    generalize s.extract k s.size = sk at *
    go_wp2_with fail
    refine (zzIndex_any sk _ (by omega)).mono ?_
    rintro e w2 ⟨rfl, ⟨rfl, hno⟩ | ⟨i, hi, rfl, hc, hno⟩⟩
    · have HE := Lib.hid (HF.out hno)
      clear hno HF HNX HX
      go_wp2_with (at_builtin; refine app_str rfl _ _ rfl w.heap.size _ _ rfl HR.out.row sk rfl (by have := HL.out; omega) HR.out.below.size ?_; intro v3 w3 hrow hb3; have hconv := row_text hrow; rw [HE.out] at hconv; have HB3 := Lib.hid (HR.out.below.trans hb3); clear hrow hb3)
      go_ret
      exact ⟨rfl, HB3.out⟩
    · have HE := Lib.hid (HNX.out i hi hc hno)
      have HS := Lib.hid (HX.out (i + 1))
      clear hc hno HNX HX HF
      have hi2 : (i : Int) ≤ (sk.size : Int) := by omega
      have hi3 : ¬ ((i : Int) < 0) := by omega
      have hi4 : (i : Int) + 1 ≤ (sk.size : Int) := by omega
      have hi5 : (0 : Int) ≤ (i : Int) + 1 := by omega
      have hz2 : ((i : Int) + 1).toNat = i + 1 := by omega
      have hz3 : (sk.extract 0 i).size = i := by simp; omega
      go_wp2_with (first
        | (at_builtin; refine app_str rfl _ _ rfl w.heap.size _ _ rfl HR.out.row (sk.extract 0 i) rfl (by have := HL.out; omega) HR.out.below.size ?_; intro v3 w3 hrow hb3; have HROW := Lib.hid hrow; have HB3 := Lib.hid (HR.out.below.trans hb3); clear hrow hb3)
        | (at_builtin; refine app_str rfl _ _ rfl w.heap.size _ _ rfl HROW.out new rfl (by have h1 := HL.out; have h2 := HN.out; have h3 : (sk.extract 0 i).data.toList.length = (sk.extract 0 i).size := Array.length_toList; rw [List.length_append, h3]; omega) HB3.out.size ?_; intro v4 w4 hrow4 hb4; rw [HE.out] at hrow4; have HROW4 := Lib.hid hrow4; have HB4 := Lib.hid (HB3.out.trans hb4); clear hrow4 hb4))
      go_roundg (s.size - (k + (i + 1)))
      case measure => omega
      case rel => exact ⟨k + (i + 1), v4, by rw [← HS.out, hz], rfl, by omega, rfl, Lib.hid ⟨HROW4.out, HB4.out⟩⟩
end Go.Proofs.YtjpcdbopioblaaaGreatDoor
