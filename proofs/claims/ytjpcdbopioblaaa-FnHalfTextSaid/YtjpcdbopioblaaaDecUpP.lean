/- What 'up' and 'down' of a decimal stand for, and the text of a half. No walk, no program. -/
import Derived.Test.YtjpcdbopioblaaaDecHalf
namespace Go.Proofs.Ytjpcdbopioblaaa

theorem getD_take {l : List Nat} {i j : Nat} (h : j < i) : (l.take i).getD j 0 = l.getD j 0 := by
  simp only [List.getD_eq_getElem?_getD, List.getElem?_take_of_lt h]
theorem numP_cong {l l' : List Nat} : ∀ {n : Nat}, (∀ i, i < n → l.getD i 0 = l'.getD i 0) → numP l n = numP l' n
  | 0, _ => rfl
  | n + 1, h => by
    show 10 * numP l n + l.getD n 0 = 10 * numP l' n + l'.getD n 0
    rw [numP_cong fun i hi => h i (by omega), h n (by omega)]
theorem numP_up {ds : List Nat} {i : Nat} (hi : i < ds.length) : numP (ds.take i ++ [ds.getD i 0 + 1]) (i + 1) = numP ds (i + 1) + 1 := by
  have hl : (ds.take i).length = i := by rw [List.length_take]; omega
  show 10 * numP _ i + _ = 10 * numP ds i + ds.getD i 0 + 1
  have e1 : numP (ds.take i ++ [ds.getD i 0 + 1]) i = numP ds i := numP_cong fun j hj => by
    rw [List.getD_eq_getElem?_getD, List.getElem?_append_left (by omega), ← List.getD_eq_getElem?_getD, getD_take hj]
  have e2 : (ds.take i ++ [ds.getD i 0 + 1]).getD i 0 = ds.getD i 0 + 1 := by
    rw [List.getD_eq_getElem?_getD, List.getElem?_append_right (by omega), hl, Nat.sub_self]; rfl
  rw [e1, e2]
  omega
/-- Nines behind a place. -/
theorem nines {ds : List Nat} {i : Nat} : ∀ k, (∀ j, i ≤ j → j < i + k → ds.getD j 0 = 9) → (numP ds i + 1) * 10 ^ k = numP ds (i + k) + 1
  | 0, _ => by simp
  | k + 1, h => by
    have ih := nines k (fun j h1 h2 => h j h1 (by omega))
    have e : numP ds (i + (k + 1)) = 10 * numP ds (i + k) + ds.getD (i + k) 0 := rfl
    rw [e, h (i + k) (by omega) (by omega), Nat.pow_succ, ← Nat.mul_assoc, ih]
    omega
theorem up_one {ds : List Nat} {dp n i : Nat} (hn : n < ds.length) (hnd : n ≤ dp) (hi : i < n) (h9 : ∀ j, i + 1 ≤ j → j < n → ds.getD j 0 = 9) :
    DVal (ds.take i ++ [ds.getD i 0 + 1]) dp ((numP ds n + 1) * 10 ^ (dp - n)) 1 := by
  have hl : (ds.take i ++ [ds.getD i 0 + 1]).length = i + 1 := by simp; omega
  refine ⟨0, by omega, ?_⟩
  have e1 : dp + 0 = (i + 1) + (dp - (i + 1)) := by omega
  rw [e1, numP_far _ (by omega), numP_up (by omega)]
  have h1 := nines (ds := ds) (i := i + 1) (n - (i + 1)) (fun j h1 h2 => h9 j h1 (by omega))
  have e2 : i + 1 + (n - (i + 1)) = n := by omega
  rw [e2] at h1
  rw [← h1, Nat.mul_one, Nat.pow_zero, Nat.mul_one, Nat.mul_assoc, ← Nat.pow_add]
  congr 2
  omega
theorem up_all {ds : List Nat} {dp n : Nat} (hnd : n ≤ dp) (h9 : ∀ j, j < n → ds.getD j 0 = 9) : DVal [1] (dp + 1) ((numP ds n + 1) * 10 ^ (dp - n)) 1 := by
  refine ⟨0, by simp, ?_⟩
  have h1 := nines (ds := ds) (i := 0) n (fun j _ h2 => h9 j (by omega))
  rw [Nat.zero_add] at h1
  have e1 : dp + 1 + 0 = 1 + dp := by omega
  have e0 : numP ds 0 = 0 := rfl
  have e3 : numP [1] 1 = 1 := rfl
  have e4 : n + (dp - n) = dp := by omega
  rw [e1, numP_far [1] (Nat.le_refl 1), e3, ← h1, e0, Nat.mul_one, Nat.pow_zero, Nat.mul_one, Nat.mul_assoc, ← Nat.pow_add, e4]
/-- What is cut away behind n digits, zeros at the end too. -/
theorem numP_cut {ds cur : List Nat} {n r : Nat} (hn : n ≤ ds.length) (h : ds.take n = cur ++ List.replicate r 0) : ∀ i, n ≤ i → numP cur i = numP ds n * 10 ^ (i - n) := by
  have hlen : cur.length ≤ n := by have := congrArg List.length h; simp at this; omega
  have e1 : numP cur n = numP (ds.take n) n := by
    rw [h]
    refine numP_cong fun j _ => ?_
    rw [List.getD_eq_getElem?_getD, List.getD_eq_getElem?_getD]
    by_cases hj : j < cur.length
    · rw [List.getElem?_append_left hj]
    · rw [List.getElem?_append_right (by omega), List.getElem?_eq_none (by omega), List.getElem?_replicate]
      split <;> rfl
  have e2 : numP (ds.take n) n = numP ds n := numP_cong fun j hj => getD_take hj
  intro i hi
  have e3 : i = n + (i - n) := by omega
  conv => lhs; rw [e3]
  rw [numP_far cur hlen, e1, e2]
theorem leD_nil {A : List Nat} {a b c : Nat} (h : LeD A a [] b) : LeD A a [] c := by
  obtain ⟨j0, hj⟩ := h
  have hz : ∀ n, numP [] n = 0 := fun n => by
    induction n with
    | zero => rfl
    | succ n ih => show 10 * numP [] n + _ = 0; rw [ih]; rfl
  exact ⟨j0, fun j h => by have := hj j h; rw [hz] at this ⊢; exact this⟩

/-- A number's digits as they stand ahead of the point. -/
theorem dig_of_first {ds : List Nat} {dp : Nat} (hd : Digs ds) (h0 : ds.getD 0 0 ≠ 0) (hdp : 0 < dp) : (List.range dp).map (fun j => ds.getD j 0) = dig (numP ds dp) := by
  have hl : ((List.range dp).map (fun j => ds.getD j 0)).length = dp := by simp
  have hg : ∀ i, i < dp → ((List.range dp).map (fun j => ds.getD j 0)).getD i 0 = ds.getD i 0 := fun i hi => by
    rw [List.getD_eq_getElem?_getD, List.getElem?_map, List.getElem?_range hi]; rfl
  have hn : numL ((List.range dp).map (fun j => ds.getD j 0)) = numP ds dp := by
    rw [← numP_all, hl]
    exact numP_cong hg
  have h1 := dig_unique (dp - 1) ((List.range dp).map (fun j => ds.getD j 0)) (by rw [hl]; omega) (fun d hdd => by
    obtain ⟨j, _, rfl⟩ := List.mem_map.1 hdd
    exact hd.getD j) (by rw [hg 0 hdp]; exact h0)
  rw [hn] at h1
  exact h1
end Go.Proofs.Ytjpcdbopioblaaa
