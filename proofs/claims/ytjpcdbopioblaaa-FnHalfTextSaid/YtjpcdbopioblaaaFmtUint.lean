/- 'FormatUint' in base 10 walked. -/
import Derived.Test.YtjpcdbopioblaaaDecShift
import Derived.Laws.IdiomStrings
namespace Go.Proofs.Ytjpcdbopioblaaa
open Go.RowKit

def digText (n : Nat) : List UInt8 := (dig n).map fun d => UInt8.ofNat (48 + d)
theorem dig_step (n : Nat) (hn : 0 < n) : dig n = (if n / 10 = 0 then [] else dig (n / 10)) ++ [n % 10] := by
  conv => lhs; unfold dig
  by_cases h : n < 10
  · rw [dif_pos h, if_pos (by omega), Nat.mod_eq_of_lt h]; rfl
  · rw [dif_neg h, if_neg (by omega)]
theorem dig_len : ∀ (k n : Nat), n < 10 ^ (k + 1) → (dig n).length ≤ k + 1
  | 0, n, h => by unfold dig; rw [dif_pos (by simpa using h)]; simp
  | k + 1, n, h => by
    by_cases h0 : n = 0
    · subst h0; unfold dig; simp
    · rw [dig_step n (by omega), List.length_append]
      have h1 : n / 10 < 10 ^ (k + 1) := Nat.div_lt_of_lt_mul (by rw [Nat.pow_succ] at h; omega)
      have h2 := dig_len k (n / 10) h1
      split
      · simp
      · simp; omega
theorem dig_pos (n : Nat) : 0 < (dig n).length := List.length_pos_iff.2 (dig_ne n)
theorem base_key : ∀ k : Fin 36, (((⟨#[48, 49, 50, 51, 52, 53, 54, 55, 56, 57, 97, 98, 99, 100, 101, 102, 103, 104, 105, 106, 107, 108, 109, 110, 111, 112, 113, 114, 115, 116, 117, 118, 119, 120, 121, 122]⟩ : ByteArray)[k.val]'k.isLt).toNat = if k.val < 10 then 48 + k.val else 87 + k.val) := by decide +kernel
theorem base_at (z : Nat) (h : z < 10) (hz) : ((⟨#[48, 49, 50, 51, 52, 53, 54, 55, 56, 57, 97, 98, 99, 100, 101, 102, 103, 104, 105, 106, 107, 108, 109, 110, 111, 112, 113, 114, 115, 116, 117, 118, 119, 120, 121, 122]⟩ : ByteArray)[z]'hz).toNat = 48 + z := by
  rw [base_key ⟨z, by omega⟩, if_pos (by show z < 10; omega)]

/-- While a number is written from the end of its 64 bytes. -/
structure FU (w : World) (n0 n : Nat) (out : List Nat) (wr : World) : Prop where
  cells : ∃ cs, wr.heap[w.heap.size]? = some (.cells cs 33 (0, 0)) ∧ cs.size = 64 ∧ ∀ j (h : j < out.length), cs[64 - out.length + j]? = some (.int .u8 ((48 + out[j] : Nat) : Int))
  eq : dig n0 = (if out = [] then dig n else if n = 0 then [] else dig n) ++ out
  below : Below w.heap.size w wr
theorem FU.len {w : World} {n0 n : Nat} {out : List Nat} {wr : World} (h : FU w n0 n out wr) (hn : n0 < 10 ^ 20) : out.length ≤ 20 := by
  have h1 := congrArg List.length h.eq
  have h2 := dig_len 19 n0 hn
  rw [List.length_append] at h1
  omega
theorem FU.lt {w : World} {n0 n : Nat} {out : List Nat} {wr : World} (h : FU w n0 n out wr) (hn : n0 < 10 ^ 20) (hgo : out = [] ∨ 0 < n) : out.length < 20 := by
  have h1 := congrArg List.length h.eq
  have h2 := dig_len 19 n0 hn
  have h3 := dig_pos n
  rw [List.length_append] at h1
  rcases hgo with e | e
  · subst e; simp
  · by_cases e2 : out = []
    · subst e2; simp
    · rw [if_neg e2, if_neg (by omega)] at h1; omega
theorem FU.step {w : World} {n0 n : Nat} {out : List Nat} {wr : World} (h : FU w n0 n out wr) (hl : out.length < 20) (hgo : out = [] ∨ 0 < n) (i : Nat) (hi : i = 63 - out.length) (x : Int) (hx : x = ((48 + n % 10 : Nat) : Int)) :
    FU w n0 (n / 10) ((n % 10) :: out) (wr.setCell ⟨w.heap.size, i, none⟩ (.int .u8 x)) := by
  subst hi hx
  obtain ⟨cs, hb, hz, hc⟩ := h.cells
  refine ⟨⟨_, by simpa using Lib.heap_setCell_same hb (i := 63 - out.length) (.int .u8 ((48 + n % 10 : Nat) : Int)), by simpa using hz, fun j hj => ?_⟩, ?_, h.below.setCell (p := ⟨w.heap.size, 63 - out.length, none⟩) (Nat.le_refl _) _⟩
  · have e : 64 - (n % 10 :: out).length + j = 63 - out.length + j := by simp only [List.length_cons]; omega
    rw [e]
    cases j with
    | zero => rw [Nat.add_zero, Array.getElem?_setIfInBounds_self_of_lt (by omega)]; simp
    | succ j =>
      have hj2 : j < out.length := by simpa using hj
      have e2 : 63 - out.length + (j + 1) = 64 - out.length + j := by omega
      rw [e2]
      rw [Array.getElem?_setIfInBounds_ne (by omega)]
      simpa using hc j hj2
  · have h1 := h.eq
    rw [if_neg (by simp)]
    rw [h1]
    by_cases e : out = []
    · subst e
      rw [if_pos rfl]
      by_cases h0 : n = 0
      · subst h0; unfold dig; simp
      · rw [dig_step n (by omega)]; simp
    · rw [if_neg e]
      have hp : 0 < n := by rcases hgo with h | h; exact absurd h e; exact h
      rw [if_neg (by omega), dig_step n hp]
      simp
theorem FU.done {w : World} {n0 : Nat} {out : List Nat} {wr : World} (h : FU w n0 0 out wr) (hne : out ≠ []) : out = dig n0 := by
  have h1 := h.eq
  rw [if_neg hne, if_pos rfl, List.nil_append] at h1
  exact h1.symm
theorem FU.text {w : World} {n0 : Nat} {out : List Nat} {wr : World} (h : FU w n0 0 out wr) (hne : out ≠ []) (i : Nat) (hi : i = 64 - out.length) (n c : Nat) (hn : n = out.length) :
    (convert 25 9 (.slice (some ⟨w.heap.size, i, none⟩) n c)).run Try.prog wr = .ok (.string ⟨(digText n0).toArray⟩) wr := by
  subst hi hn
  have hd := h.done hne
  obtain ⟨cs, hb, hz, hc⟩ := h.cells
  have e : (digText n0).length = out.length := by rw [digText, List.length_map, hd]
  have hdd := digs_dig n0
  rw [show (Value.slice (some ⟨w.heap.size, 64 - out.length, none⟩) out.length c) = Value.slice (some ⟨w.heap.size, 64 - out.length, none⟩) (digText n0).length c by rw [e]]
  refine run_convert_bytes_back wr _ _ 5 ⟨w.heap.size, 64 - out.length, none⟩ c (digText n0) Try.underlying25 Try.underlying5 Try.underlying9 (fun j hj => ?_)
  have hj2 : j < out.length := by omega
  have e2 : (⟨w.heap.size, 64 - out.length, none⟩ : Addr).add j = ⟨w.heap.size, 64 - out.length + j, none⟩ := by unfold Addr.add; split <;> simp_all
  rw [e2]
  simp only [World.cell?, hb]
  have h1 := hc j hj2
  have h2 : (digText n0)[j] = UInt8.ofNat (48 + out[j]) := by simp [digText, hd]
  have h3 : out[j] < 10 := by rw [hd] at hj2; have := hdd (dig n0)[j] (List.getElem_mem _); simp only [hd]; exact this
  have h4 : (UInt8.ofNat (48 + out[j])).toNat = 48 + out[j] := by simp; omega
  rw [h2, h4]
  simpa using h1
theorem FU.start (w : World) (n : Nat) (cs : Array Value) (hz : cs.size = 64) : FU w n n [] (w.alloc (.cells cs 33)) :=
  ⟨⟨cs, heap_alloc_new w _, hz, fun j hj => absurd hj (by simp)⟩, by simp, (Below.refl _ _).alloc (Nat.le_refl _) _⟩
theorem FU.lt_cell {w : World} {n0 n : Nat} {out : List Nat} {wr : World} (h : FU w n0 n out wr) (i : Nat) (hi : i < 64) : ∃ v, wr.cell? ⟨w.heap.size, i, none⟩ = some v := by
  obtain ⟨cs, hb, hz, hc⟩ := h.cells
  exact ⟨cs[i], by simp [World.cell?, hb]⟩
theorem FU.fr {w : World} {n0 n : Nat} {out : List Nat} {wr : World} (h : FU w n0 n out wr) (o : Nat) : wr.frozen? ⟨w.heap.size, o, none⟩ = false := by
  obtain ⟨cs, hb, hz, hc⟩ := h.cells
  simp [World.frozen?, hb]

theorem arr_from (a : Addr) (l : Int) (wr : World) (h0 : 0 ≤ l) (h1 : l ≤ 64) : (Instr.sliceAt 33 (.pointer (some a)) (some (.int .i64 l)) none none).run Try.prog wr = .ok (slicedAt a l.toNat 64 64 1) wr := by
  have hl : Try.prog.arrayLen 33 = 64 := by kernel_rfl
  rw [run_sliceAt_array_l wr 33 a (by rw [hl]; exact Try.underlying33) .i64 l h0 (by rw [hl]; exact h1), hl]
  have hs : (sizeOf (Try.prog.elem 33)).run Try.prog wr = .ok 1 wr := by
    have : Try.prog.elem 33 = 5 := by kernel_rfl
    rw [this]
    simp
  rw [hs]
  rfl
set_option maxRecDepth 100000 in
set_option maxHeartbeats 3200000 in
theorem formatUint_any (n0 : Nat) (w : World) (hn : n0 < 18446744073709551616) :
    Calls Try.prog 18 #[.int .u64 n0, .int .i64 10] w fun e w' => e = .returned (.string ⟨(digText n0).toArray⟩) ∧ Below w.heap.size w w' := by
  have hn2 : n0 < 10 ^ 20 := by omega
  go_enter Try.func18, Try.ntmps18
  go_wp2_with fail
  generalize hW : w.alloc _ = W1
  have HF0 : Hid (FU w n0 n0 [] W1) := Lib.hid (by rw [← hW]; exact FU.start w n0 _ (by kernel_rfl))
  clear hW
  go_loopg [0, 6] 64 (fun gk s0 s6 wr => ∃ (n : Nat) (out : List Nat), s0 = .int .u64 n ∧ s6 = .int .i64 (64 - (out.length : Int)) ∧ gk = 64 - out.length ∧ n < 18446744073709551616 ∧ out.length ≤ 20 ∧ Hid (FU w n0 n out wr))
  case atStart => exact ⟨n0, [], rfl, rfl, rfl, hn, by simp, HF0⟩
  case round =>
    obtain ⟨n, out, rfl, rfl, rfl, hnl, hle, HF⟩ := hrel
    clear HF0
    by_cases hgo : out = [] ∨ 0 < n
    · have hlt := HF.out.lt hn2 hgo
      have HS := Lib.hid (HF.out.step hlt hgo (63 - out.length) rfl _ rfl)
      obtain ⟨v, hv⟩ := HF.out.lt_cell (63 - out.length) (by omega)
      have hfr := HF.out.fr (63 - out.length)
      have e1 : (64 - (out.length : Int) - 1).toNat = 63 - out.length := by omega
      have e2 : (0 : Int) ≤ 64 - (out.length : Int) - 1 := by omega
      have e3 : (64 - (out.length : Int) - 1) < 64 := by omega
      have hx : (0 : Int) ≤ (n : Int) % 10 ∧ (n : Int) % 10 < 10 := by omega
      have hg2 : (64 - (out.length : Int) == 64) = true ∨ (64 - (out.length : Int) == 64) = false ∧ (0 : Int) < (n : Int) := by
        rcases hgo with h | h
        · left; subst h; rfl
        · by_cases h0 : out.length = 0
          · left; rw [h0]; rfl
          · right; exact ⟨beq_eq_false_iff_ne.2 (by omega), by omega⟩
      rcases hg2 with hg2 | ⟨hg2, hpos⟩
      · go_wp2_with fail
        go_roundg (64 - (out.length + 1))
        case measure => omega
        case rel => exact ⟨n / 10, n % 10 :: out, by simp, by go_num, rfl, by omega, by have := hlt; simp; omega, by rw [base_at _ (Nat.mod_lt _ (by decide))]; exact HS⟩
      · go_wp2_with fail
        go_roundg (64 - (out.length + 1))
        case measure => omega
        case rel => exact ⟨n / 10, n % 10 :: out, by simp, by go_num, rfl, by omega, by have := hlt; simp; omega, by rw [base_at _ (Nat.mod_lt _ (by decide))]; exact HS⟩
    · have hne : out ≠ [] := fun e => hgo (.inl e)
      have h0 : n = 0 := by omega
      subst h0
      have hlen : 0 < out.length := List.length_pos_iff.2 hne
      have hg2 : (64 - (out.length : Int) == 64) = false := beq_eq_false_iff_ne.2 (by omega)
      have HT := Lib.hid (fun n c hn => HF.out.text hne (64 - out.length) rfl n c hn)
      have hsl := arr_from ⟨w.heap.size, 0, none⟩ (64 - (out.length : Int)) wr (by omega) (by omega)
      rw [show (64 - (out.length : Int)).toNat = 64 - out.length by omega] at hsl
      have hcv := HT.out (64 - (64 - out.length)) (64 - (64 - out.length)) (by omega)
      have HB := Lib.hid HF.out.below
      clear hgo HT
      go_wp2_with fail
      go_ret
      exact ⟨rfl, HB.out⟩
end Go.Proofs.Ytjpcdbopioblaaa
