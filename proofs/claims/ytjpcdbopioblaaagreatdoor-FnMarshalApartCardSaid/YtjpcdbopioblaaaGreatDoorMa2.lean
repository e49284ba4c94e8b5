/- Texts of this proof laid together by a program: FmtUint, NewDec, DecText, DecDown, DecUpP, DecUp, DecShort, Floats, Floats2. -/
import Derived.Test.YtjpcdbopioblaaaGreatDoorMa1
import Derived.Laws.IdiomStrings
import Derived.Lib.ConvBytes
import Derived.Lib.BufferRead
import Derived.Deep.RegionHeld3
import Derived.Deep.AppendLies
import Derived.Laws.FloatArith
/- 'FormatUint' in base 10 walked. -/
namespace Go.Proofs.YtjpcdbopioblaaaGreatDoor
open Go.RowKit

def digText (n : Nat) : List UInt8 := (dig n).map fun d => UInt8.ofNat (48 + d)
theorem dig_step (n : Nat) (hn : 0 < n) : dig n = (if n / 10 = 0 then [] else dig (n / 10)) ++ [n % 10] := by
  conv => lhs; unfold dig
  by_cases h : n < 10
  · rw [dif_pos h, if_pos (by omega), Nat.mod_eq_of_lt h]; rfl
  · rw [dif_neg h, if_neg (by omega)]
theorem dig_len : ∀ (k n : Nat), n < 10 ^ (k + 1) → (dig n).length ≤ k + 1
  | 0, n, h => by unfold dig; rw [dif_pos (by simpa using h)]; simp
  | k + 1, n, h => by
    by_cases h0 : n = 0
    · subst h0; unfold dig; simp
    · rw [dig_step n (by omega), List.length_append]
      have h1 : n / 10 < 10 ^ (k + 1) := Nat.div_lt_of_lt_mul (by rw [Nat.pow_succ] at h; omega)
      have h2 := dig_len k (n / 10) h1
      split
      · simp
      · simp; omega
theorem dig_pos (n : Nat) : 0 < (dig n).length := List.length_pos_iff.2 (dig_ne n)
theorem base_key : ∀ k : Fin 36, (((⟨#[48, 49, 50, 51, 52, 53, 54, 55, 56, 57, 97, 98, 99, 100, 101, 102, 103, 104, 105, 106, 107, 108, 109, 110, 111, 112, 113, 114, 115, 116, 117, 118, 119, 120, 121, 122]⟩ : ByteArray)[k.val]'k.isLt).toNat = if k.val < 10 then 48 + k.val else 87 + k.val) := by decide +kernel
theorem base_at (z : Nat) (h : z < 10) (hz) : ((⟨#[48, 49, 50, 51, 52, 53, 54, 55, 56, 57, 97, 98, 99, 100, 101, 102, 103, 104, 105, 106, 107, 108, 109, 110, 111, 112, 113, 114, 115, 116, 117, 118, 119, 120, 121, 122]⟩ : ByteArray)[z]'hz).toNat = 48 + z := by
  rw [base_key ⟨z, by omega⟩, if_pos (by show z < 10; omega)]

/-- While a number is written from the end of its 64 bytes. -/
structure FU (w : World) (n0 n : Nat) (out : List Nat) (wr : World) : Prop where
  cells : ∃ cs, wr.heap[w.heap.size]? = some (.cells cs 103 (0, 0)) ∧ cs.size = 64 ∧ ∀ j (h : j < out.length), cs[64 - out.length + j]? = some (.int .u8 ((48 + out[j] : Nat) : Int))
  eq : dig n0 = (if out = [] then dig n else if n = 0 then [] else dig n) ++ out
  below : Below w.heap.size w wr
theorem FU.len {w : World} {n0 n : Nat} {out : List Nat} {wr : World} (h : FU w n0 n out wr) (hn : n0 < 10 ^ 20) : out.length ≤ 20 := by
  have h1 := congrArg List.length h.eq
  have h2 := dig_len 19 n0 hn
  rw [List.length_append] at h1
  omega
theorem FU.lt {w : World} {n0 n : Nat} {out : List Nat} {wr : World} (h : FU w n0 n out wr) (hn : n0 < 10 ^ 20) (hgo : out = [] ∨ 0 < n) : out.length < 20 := by
  have h1 := congrArg List.length h.eq
  have h2 := dig_len 19 n0 hn
  have h3 := dig_pos n
  rw [List.length_append] at h1
  rcases hgo with e | e
  · subst e; simp
  · by_cases e2 : out = []
    · subst e2; simp
    · rw [if_neg e2, if_neg (by omega)] at h1; omega
theorem FU.step {w : World} {n0 n : Nat} {out : List Nat} {wr : World} (h : FU w n0 n out wr) (hl : out.length < 20) (hgo : out = [] ∨ 0 < n) (i : Nat) (hi : i = 63 - out.length) (x : Int) (hx : x = ((48 + n % 10 : Nat) : Int)) :
    FU w n0 (n / 10) ((n % 10) :: out) (wr.setCell ⟨w.heap.size, i, none⟩ (.int .u8 x)) := by
  subst hi hx
  obtain ⟨cs, hb, hz, hc⟩ := h.cells
  refine ⟨⟨_, by simpa using Lib.heap_setCell_same hb (i := 63 - out.length) (.int .u8 ((48 + n % 10 : Nat) : Int)), by simpa using hz, fun j hj => ?_⟩, ?_, h.below.setCell (p := ⟨w.heap.size, 63 - out.length, none⟩) (Nat.le_refl _) _⟩
  · have e : 64 - (n % 10 :: out).length + j = 63 - out.length + j := by simp only [List.length_cons]; omega
    rw [e]
    cases j with
    | zero => rw [Nat.add_zero, Array.getElem?_setIfInBounds_self_of_lt (by omega)]; simp
    | succ j =>
      have hj2 : j < out.length := by simpa using hj
      have e2 : 63 - out.length + (j + 1) = 64 - out.length + j := by omega
      rw [e2]
      rw [Array.getElem?_setIfInBounds_ne (by omega)]
      simpa using hc j hj2
  · have h1 := h.eq
    rw [if_neg (by simp)]
    rw [h1]
    by_cases e : out = []
    · subst e
      rw [if_pos rfl]
      by_cases h0 : n = 0
      · subst h0; unfold dig; simp
      · rw [dig_step n (by omega)]; simp
    · rw [if_neg e]
      have hp : 0 < n := by rcases hgo with h | h; exact absurd h e; exact h
      rw [if_neg (by omega), dig_step n hp]
      simp
theorem FU.done {w : World} {n0 : Nat} {out : List Nat} {wr : World} (h : FU w n0 0 out wr) (hne : out ≠ []) : out = dig n0 := by
  have h1 := h.eq
  rw [if_neg hne, if_pos rfl, List.nil_append] at h1
  exact h1.symm
theorem FU.text {w : World} {n0 : Nat} {out : List Nat} {wr : World} (h : FU w n0 0 out wr) (hne : out ≠ []) (i : Nat) (hi : i = 64 - out.length) (n c : Nat) (hn : n = out.length) :
    (convert 58 9 (.slice (some ⟨w.heap.size, i, none⟩) n c)).run Tryz.prog wr = .ok (.string ⟨(digText n0).toArray⟩) wr := by
  subst hi hn
  have hd := h.done hne
  obtain ⟨cs, hb, hz, hc⟩ := h.cells
  have e : (digText n0).length = out.length := by rw [digText, List.length_map, hd]
  have hdd := digs_dig n0
  rw [show (Value.slice (some ⟨w.heap.size, 64 - out.length, none⟩) out.length c) = Value.slice (some ⟨w.heap.size, 64 - out.length, none⟩) (digText n0).length c by rw [e]]
  refine run_convert_bytes_back wr _ _ 5 ⟨w.heap.size, 64 - out.length, none⟩ c (digText n0) Tryz.underlying58 Tryz.underlying5 Tryz.underlying9 (fun j hj => ?_)
  have hj2 : j < out.length := by omega
  have e2 : (⟨w.heap.size, 64 - out.length, none⟩ : Addr).add j = ⟨w.heap.size, 64 - out.length + j, none⟩ := by unfold Addr.add; split <;> simp_all
  rw [e2]
  simp only [World.cell?, hb]
  have h1 := hc j hj2
  have h2 : (digText n0)[j] = UInt8.ofNat (48 + out[j]) := by simp [digText, hd]
  have h3 : out[j] < 10 := by rw [hd] at hj2; have := hdd (dig n0)[j] (List.getElem_mem _); simp only [hd]; exact this
  have h4 : (UInt8.ofNat (48 + out[j])).toNat = 48 + out[j] := by simp; omega
  rw [h2, h4]
  simpa using h1
theorem FU.start (w : World) (n : Nat) (cs : Array Value) (hz : cs.size = 64) : FU w n n [] (w.alloc (.cells cs 103)) :=
  ⟨⟨cs, heap_alloc_new w _, hz, fun j hj => absurd hj (by simp)⟩, by simp, (Below.refl _ _).alloc (Nat.le_refl _) _⟩
theorem FU.lt_cell {w : World} {n0 n : Nat} {out : List Nat} {wr : World} (h : FU w n0 n out wr) (i : Nat) (hi : i < 64) : ∃ v, wr.cell? ⟨w.heap.size, i, none⟩ = some v := by
  obtain ⟨cs, hb, hz, hc⟩ := h.cells
  exact ⟨cs[i], by simp [World.cell?, hb]⟩
theorem FU.fr {w : World} {n0 n : Nat} {out : List Nat} {wr : World} (h : FU w n0 n out wr) (o : Nat) : wr.frozen? ⟨w.heap.size, o, none⟩ = false := by
  obtain ⟨cs, hb, hz, hc⟩ := h.cells
  simp [World.frozen?, hb]

set_option maxRecDepth 100000 in
theorem arr_from (a : Addr) (l : Int) (wr : World) (h0 : 0 ≤ l) (h1 : l ≤ 64) : (Instr.sliceAt 103 (.pointer (some a)) (some (.int .i64 l)) none none).run Tryz.prog wr = .ok (slicedAt a l.toNat 64 64 1) wr := by
  have hl : Tryz.prog.arrayLen 103 = 64 := by kernel_rfl
  rw [run_sliceAt_array_l wr 103 a (by rw [hl]; exact Tryz.underlying103) .i64 l h0 (by rw [hl]; exact h1), hl]
  have hs : (sizeOf (Tryz.prog.elem 103)).run Tryz.prog wr = .ok 1 wr := by
    have : Tryz.prog.elem 103 = 5 := by kernel_rfl
    rw [this]
    simp
  rw [hs]
  rfl
set_option maxRecDepth 100000 in
set_option maxHeartbeats 3200000 in
theorem formatUint_any (n0 : Nat) (w : World) (hn : n0 < 18446744073709551616) :
    Calls Tryz.prog 175 #[.int .u64 n0, .int .i64 10] w fun e w' => e = .returned (.string ⟨(digText n0).toArray⟩) ∧ Below w.heap.size w w' := by
  have hn2 : n0 < 10 ^ 20 := by omega
  go_enter Tryz.func175, Tryz.ntmps175
  go_wp2_with fail
  generalize hW : w.alloc _ = W1
  have HF0 : Hid (FU w n0 n0 [] W1) := Lib.hid (by rw [← hW]; exact FU.start w n0 _ (by kernel_rfl))
  clear hW
  go_loopg [0, 6] 64 (fun gk s0 s6 wr => ∃ (n : Nat) (out : List Nat), s0 = .int .u64 n ∧ s6 = .int .i64 (64 - (out.length : Int)) ∧ gk = 64 - out.length ∧ n < 18446744073709551616 ∧ out.length ≤ 20 ∧ Hid (FU w n0 n out wr))
  case atStart => exact ⟨n0, [], rfl, rfl, rfl, hn, by simp, HF0⟩
  case round =>
    obtain ⟨n, out, rfl, rfl, rfl, hnl, hle, HF⟩ := hrel
    clear HF0
    by_cases hgo : out = [] ∨ 0 < n
    · have hlt := HF.out.lt hn2 hgo
      have HS := Lib.hid (HF.out.step hlt hgo (63 - out.length) rfl _ rfl)
      obtain ⟨v, hv⟩ := HF.out.lt_cell (63 - out.length) (by omega)
      have hfr := HF.out.fr (63 - out.length)
      have e1 : (64 - (out.length : Int) - 1).toNat = 63 - out.length := by omega
      have e2 : (0 : Int) ≤ 64 - (out.length : Int) - 1 := by omega
      have e3 : (64 - (out.length : Int) - 1) < 64 := by omega
      have hx : (0 : Int) ≤ (n : Int) % 10 ∧ (n : Int) % 10 < 10 := by omega
      have hg2 : (64 - (out.length : Int) == 64) = true ∨ (64 - (out.length : Int) == 64) = false ∧ (0 : Int) < (n : Int) := by
        rcases hgo with h | h
        · left; subst h; rfl
        · by_cases h0 : out.length = 0
          · left; rw [h0]; rfl
          · right; exact ⟨beq_eq_false_iff_ne.2 (by omega), by omega⟩
      rcases hg2 with hg2 | ⟨hg2, hpos⟩
      · go_wp2_with fail
        go_roundg (64 - (out.length + 1))
        case measure => omega
        case rel => exact ⟨n / 10, n % 10 :: out, by simp, by go_num, rfl, by omega, by have := hlt; simp; omega, by rw [base_at _ (Nat.mod_lt _ (by decide))]; exact HS⟩
      · go_wp2_with fail
        go_roundg (64 - (out.length + 1))
        case measure => omega
        case rel => exact ⟨n / 10, n % 10 :: out, by simp, by go_num, rfl, by omega, by have := hlt; simp; omega, by rw [base_at _ (Nat.mod_lt _ (by decide))]; exact HS⟩
    · have hne : out ≠ [] := fun e => hgo (.inl e)
      have h0 : n = 0 := by omega
      subst h0
      have hlen : 0 < out.length := List.length_pos_iff.2 hne
      have hg2 : (64 - (out.length : Int) == 64) = false := beq_eq_false_iff_ne.2 (by omega)
      have HT := Lib.hid (fun n c hn => HF.out.text hne (64 - out.length) rfl n c hn)
      have hsl := arr_from ⟨w.heap.size, 0, none⟩ (64 - (out.length : Int)) wr (by omega) (by omega)
      rw [show (64 - (out.length : Int)).toNat = 64 - out.length by omega] at hsl
      have hcv := HT.out (64 - (64 - out.length)) (64 - (64 - out.length)) (by omega)
      have HB := Lib.hid HF.out.below
      clear hgo HT
      go_wp2_with fail
      go_ret
      exact ⟨rfl, HB.out⟩
end Go.Proofs.YtjpcdbopioblaaaGreatDoor

/- 'newDecimal' walked. -/
namespace Go.Proofs.YtjpcdbopioblaaaGreatDoor
open Go.RowKit

theorem ownsF_set {W : World} {B : Nat} {e : TypeId} {sz : Nat} {v : Value} {n : Nat} {xs : List Value} (h : W.ownsRowF B e sz v n xs) {p : Addr} (hp : p.block < B) (x : Value) : (W.setCell p x).ownsRowF B e sz v n xs := by
  obtain ⟨hl, h0 | ⟨g, cap, cur, fz, rfl, hb, hg, hr⟩⟩ := h
  · exact ⟨hl, .inl h0⟩
  · exact ⟨hl, .inr ⟨g, cap, cur, fz, rfl, hb, by rw [heap_setCell_other _ _ _ _ (by omega)]; exact hg, hr⟩⟩

theorem own_shape {W : World} {B : Nat} {e : TypeId} {sz : Nat} {v : Value} {n : Nat} {xs : List Value} (h : W.ownsRowF B e sz v n xs) : ∃ a c, v = .slice a n c := by
  obtain ⟨hl, ⟨rfl, h0⟩ | ⟨g, cap, cur, fz, rfl, hb, hg, hr⟩⟩ := h
  · exact ⟨none, 0, by rw [h0]⟩
  · exact ⟨_, _, rfl⟩
/-- While the digits of a number are laid into a decimal. -/
structure ND (n : Nat) (w : World) (R B : Nat) (k : Nat) (v : Value) (wr : World) : Prop where
  dec : wr.heap[w.heap.size]? = some (.cells #[v, .int .i64 0] 239 (0, 0))
  row : wr.ownsRowF B 5 1 v k (dgCells ((dig n).take k))
  view : ∀ j (hj : j < (dig n).length), wr.cell? ⟨R, j, none⟩ = some (.int .u8 (48 + ((dig n)[j] : Nat)))
  below : Below w.heap.size w wr
  lo : w.heap.size < R
  mid : R < B
  hi : B ≤ wr.heap.size
theorem ND.own {n : Nat} {w : World} {R B k : Nat} {v : Value} {wr : World} (h : ND n w R B k v wr) : Lib.OwnBuf B 5 v k (dgCells ((dig n).take k)) wr wr := ⟨h.row, Below.refl _ _, h.hi⟩
theorem cell_of_below {B : Nat} {w w' : World} (h : Below B w w') {g j : Nat} (hg : g < B) : w'.cell? ⟨g, j, none⟩ = w.cell? ⟨g, j, none⟩ := by
  simp only [World.cell?]
  rw [h.block g hg]
theorem ND.push {n : Nat} {w : World} {R B k : Nat} {v v' : Value} {wr w3 : World} (h : ND n w R B k v wr) (hk : k < (dig n).length) {x : Int} (hx : x = ((dig n)[k] : Nat)) (ho : Lib.OwnBuf B 5 v' (k + 1) (dgCells ((dig n).take k) ++ [.int .u8 x]) wr w3) :
    ND n w R B (k + 1) v' (w3.setCell ⟨w.heap.size, 0, none⟩ v') := by
  obtain ⟨hr, hb, hs⟩ := ho
  have h1 := h.lo
  have h2 := h.mid
  have hd : w3.heap[w.heap.size]? = some (.cells #[v, .int .i64 0] 239 (0, 0)) := (hb.block _ (by omega)).trans h.dec
  have e : dgCells ((dig n).take (k + 1)) = dgCells ((dig n).take k) ++ [.int .u8 x] := by
    rw [List.take_add_one, List.getElem?_eq_getElem hk]
    unfold dgCells
    rw [List.map_append]
    subst hx
    rfl
  refine ⟨by simpa using Lib.heap_setCell_same hd (i := 0) v', ?_, fun j hj => ?_, ?_, h1, h2, by simpa using hs⟩
  · rw [e]; exact ownsF_set hr (by show w.heap.size < B; omega) _
  · rw [World.cell?_setCell_other _ _ _ _ (by intro e; injection e with e; omega), cell_of_below hb (by omega)]
    exact h.view j hj
  · exact (h.below.trans (hb.mono (by omega))).setCell (p := ⟨w.heap.size, 0, none⟩) (Nat.le_refl _) _
theorem ND.start {n : Nat} {w w2 : World} (hd : w2.heap[w.heap.size]? = some (.cells #[.slice none 0 0, .int .i64 0] 239 (0, 0))) (hb : Below w.heap.size w w2) :
    ND n w w2.heap.size (w2.heap.size + 1) 0 (.slice none 0 0) (Lib.bytesWorld w2 5 ⟨(digText n).toArray⟩) := by
  have hlt : w.heap.size < w2.heap.size := lt_of_block hd
  have hsz : (Lib.bytesWorld w2 5 ⟨(digText n).toArray⟩).heap.size = w2.heap.size + 1 := Lib.bytesWorld_size _ _ _
  refine ⟨(Lib.bytesWorld_at_old w2 _ _ _ hlt).trans hd, World.ownsRowF_nil _ _ _ _, fun j hj => ?_, hb.trans ⟨rfl, rfl, rfl, by rw [hsz]; omega, fun k hk => Lib.bytesWorld_at_old w2 _ _ k (by omega)⟩, hlt, by omega, by omega⟩
  have hl : (digText n).length = (dig n).length := by simp [digText]
  have h3 : (dig n)[j] < 10 := digs_dig n _ (List.getElem_mem _)
  rw [Lib.bytesWorld_cell w2 _ _ j (by show j < (digText n).toArray.size; simp; omega)]
  have e : (digText n).getD j 0 = UInt8.ofNat (48 + (dig n)[j]) := by
    rw [List.getD_eq_getElem?_getD]
    simp [digText, List.getElem?_map, List.getElem?_eq_getElem hj]
  simp only [e]
  congr 2
  simp
  omega
theorem ND.done {n : Nat} {w : World} {R B : Nat} {v : Value} {wr : World} (h : ND n w R B (dig n).length v wr) : DecAt (wr.setCell ⟨w.heap.size, 1, none⟩ (.int .i64 (dig n).length)) w.heap.size (dig n) (dig n).length := by
  have h1 := h.row
  rw [List.take_length] at h1
  have : DecAt wr w.heap.size (dig n) 0 := ⟨v, h.dec, drow_of h1⟩
  exact this.setDp _

structure NewD (v : Nat) (out : List Nat) (dp : Nat) : Prop where
  len : out.length ≤ dp
  most : dp ≤ 20
  digs : Digs out
  ne : out ≠ []
  first : out.getD 0 0 ≠ 0
  last : out.getD (out.length - 1) 0 ≠ 0
  val : DVal out dp v 1
  next : numP out (dp + 1) = 10 * v
  pos : 0 < numL out
theorem new_of {v : Nat} (hv : 0 < v) (hm : v < 10 ^ 20) {cur : List Nat} {r : Nat} (h : dig v = cur ++ List.replicate r 0) (hlast : cur ≠ [] → cur.getD (cur.length - 1) 0 ≠ 0) : NewD v cur (dig v).length := by
  have hf := dig_first hv
  have hne : cur ≠ [] := by
    rintro rfl
    rw [h] at hf
    cases r with
    | zero => simp at hf
    | succ r => simp [List.replicate_succ] at hf
  have hp : 0 < cur.length := List.length_pos_iff.2 hne
  have hval : DVal cur (dig v).length v 1 := DVal.trims r (by rw [← h]; exact DVal.whole v)
  have hlen : cur.length ≤ (dig v).length := by rw [h]; simp
  have hnum : numP cur (dig v).length = v := by
    obtain ⟨j, _, hj⟩ := hval
    rw [numP_far cur hlen, Nat.mul_one] at hj
    exact Nat.eq_of_mul_eq_mul_right (Nat.pow_pos (by decide)) hj
  refine ⟨hlen, dig_len 19 v hm, fun d hd => digs_dig v d (by rw [h]; simp [hd]), hne, ?_, hlast hne, hval, ?_, ?_⟩
  · rw [h, List.getD_eq_getElem?_getD, List.getElem?_append_left hp, ← List.getD_eq_getElem?_getD] at hf
    exact hf
  · rw [numP_far cur hlen, hnum]; omega
  · refine Nat.pos_of_ne_zero fun h0 => ?_
    have e : (dig v).length = cur.length + ((dig v).length - cur.length) := by omega
    rw [e, numP_far cur (Nat.le_refl _), numP_all, h0, Nat.zero_mul] at hnum
    omega
theorem new_zero {cur : List Nat} {r : Nat} (h : dig 0 = cur ++ List.replicate r 0) (hlast : cur ≠ [] → cur.getD (cur.length - 1) 0 ≠ 0) : cur = [] := by
  refine Classical.byContradiction fun hne => ?_
  have h0 : dig 0 = [0] := by unfold dig; simp
  rw [h0] at h
  have h1 := hlast hne
  cases cur with
  | nil => exact hne rfl
  | cons a l =>
    simp at h
    obtain ⟨rfl, hl, _⟩ := h
    subst hl
    simp at h1
theorem ND.cells {n : Nat} {w : World} {R B k : Nat} {v v' : Value} {wr w3 : World} (h : ND n w R B k v wr) {m : Nat} {xs : List Value} (ho : Lib.OwnBuf B 5 v' m xs wr w3) : w3.cell? ⟨w.heap.size, 0, none⟩ = some v ∧ w3.frozen? ⟨w.heap.size, 0, none⟩ = false ∧ w3.frozen? ⟨w.heap.size, 1, none⟩ = false ∧ w3.cell? ⟨w.heap.size, 1, none⟩ = some (.int .i64 0) := by
  have h1 := h.lo
  have h2 := h.mid
  have hd : w3.heap[w.heap.size]? = some (.cells #[v, .int .i64 0] 239 (0, 0)) := (ho.2.1.block _ (by omega)).trans h.dec
  simp [World.cell?, World.frozen?, hd]
theorem new_post {n : Nat} {w w3 w4 : World} {cur : List Nat} {r : Nat} (hn : n < 10 ^ 20) (h : dig n = cur ++ List.replicate r 0) (hlast : cur ≠ [] → cur.getD (cur.length - 1) 0 ≠ 0) (hdec : DecAt w4 w.heap.size cur (if cur = [] then 0 else ((dig n).length : Int))) (hg : w3.grownBy w4 (some w.heap.size)) (hB : Below w.heap.size w w3) :
    ∃ out dp D, Ending.returned (.pointer (some ⟨w.heap.size, 0, none⟩)) = .returned (.pointer (some ⟨D, 0, none⟩)) ∧ w.heap.size ≤ D ∧ DecAt w4 D out (dp : Nat) ∧ Below w.heap.size w w4 ∧ (n = 0 → out = [] ∧ dp = 0) ∧ (0 < n → NewD n out dp) := by
  have hb := hB.grown hg hB.size (fun k hk => by injection hk with hk; omega)
  by_cases h0 : n = 0
  · subst h0
    have := new_zero h hlast
    subst this
    exact ⟨[], 0, w.heap.size, rfl, Nat.le_refl _, by simpa using hdec, hb, fun _ => ⟨rfl, rfl⟩, fun h => absurd h (by omega)⟩
  · have hN := new_of (by omega) hn h hlast
    rw [if_neg hN.ne] at hdec
    exact ⟨cur, _, w.heap.size, rfl, Nat.le_refl _, hdec, hb, fun h => absurd h h0, fun _ => hN⟩
def NewPost (v : Nat) (w : World) (e : Ending) (w' : World) : Prop := ∃ out dp D, e = .returned (.pointer (some ⟨D, 0, none⟩)) ∧ w.heap.size ≤ D ∧ DecAt w' D out (dp : Nat) ∧ Below w.heap.size w w' ∧ (v = 0 → out = [] ∧ dp = 0) ∧ (0 < v → NewD v out dp)

set_option maxRecDepth 100000 in
set_option maxHeartbeats 3200000 in
theorem newDecimal_any (n : Nat) (w : World) (hn : n < 18446744073709551616) :
    Calls Tryz.prog 200 #[.int .u64 n] w (NewPost n w) := by
  have hn2 : n < 10 ^ 20 := by omega
  have hd0 := Lib.hid (digs_dig n)
  have hd1 := dig_len 19 n hn2
  have hdl : (digText n).length = (dig n).length := by simp [digText]
  unfold NewPost
  go_enter Tryz.func200, Tryz.ntmps200
  go_wp2_with fail
  refine (formatUint_any n _ hn).mono ?_
  rintro e w2 ⟨rfl, hb⟩
  have hB := Lib.hid (((Below.refl _ _).alloc (Nat.le_refl _) _).trans (hb.mono (by simp)))
  have hD := Lib.hid ((hb.block w.heap.size (by simp)).trans (heap_alloc_new w _))
  clear hb
  have HS := Lib.hid (ND.start (n := n) hD.out hB.out)
  have hconv := Lib.run_convert_string_bytes (P := Tryz.prog) w2 9 58 5 ⟨(digText n).toArray⟩ Tryz.underlying9 Tryz.underlying58 Tryz.underlying5
  have hsz : (⟨(digText n).toArray⟩ : ByteArray).size = (dig n).length := by show (digText n).toArray.size = _; simp [hdl]
  rw [hsz] at hconv
  go_wp2_with fail
  generalize Lib.bytesWorld w2 _ _ = W3 at *
  obtain ⟨ti, hti, hz0, hz1, hz2⟩ := byteInfo
  have HTI := Lib.hid (And.intro hti (And.intro hz0 (And.intro hz1 hz2)))
  clear hti hz0 hz1 hz2 hconv hsz hD hdl
  go_loopg [10] 20 (fun gk s10 wr => ∃ (k : Nat) (v : Value), s10 = .int .i64 k ∧ gk = 20 - k ∧ k ≤ (dig n).length ∧ Hid (ND n w w2.heap.size (w2.heap.size + 1) k v wr))
  case atStart => exact ⟨0, _, rfl, rfl, Nat.zero_le _, HS⟩
  case round =>
    obtain ⟨k, v, rfl, rfl, hk, HN⟩ := hrel
    clear HS
    obtain ⟨a, c, hv, -, -⟩ := drow_of (l := (dig n).take k) (B := w2.heap.size + 1) (v := v) (w := wr) (by have h1 := HN.out.row; rw [List.length_take, Nat.min_eq_left hk]; exact h1)
    rw [List.length_take, Nat.min_eq_left hk] at hv
    subst hv
    obtain ⟨c0, f0, f1, c1⟩ := HN.out.cells HN.out.own
    by_cases hlt : k < (dig n).length
    · have hj : (k : Int) < ((dig n).length : Int) := by omega
      have hcell := HN.out.view k hlt
      have hd10 : (dig n)[k] < 10 := hd0.out _ (List.getElem_mem _)
      have HP := Lib.hid (fun (v' : Value) (w3 : World) (x : Int) (hx : x = ((dig n)[k] : Nat)) h => HN.out.push (v' := v') (w3 := w3) hlt (x := x) hx h)
      generalize (dig n)[k] = d at *
      go_wp2_with (at_builtin; refine Lib.wpList_append_byte rfl _ _ 58 rfl (w2.heap.size + 1) 5 ti Tryz.underlying58 HTI.out.1 HTI.out.2.1 HTI.out.2.2.1 HTI.out.2.2.2 (.slice a k c) k (dgCells ((dig n).take k)) rfl wr _ (48 + (d : Int) - 48) HN.out.own rfl (by omega) ?_; intro v' w3 ho3; obtain ⟨a3, c3, hv3⟩ := own_shape ho3.1; subst hv3; obtain ⟨d0, g0, g1, d1⟩ := HN.out.cells ho3; have HO3 := Lib.hid (HP.out _ w3 _ (by omega) ho3); clear ho3)
      go_roundg (20 - (k + 1))
      case measure => omega
      case rel => exact ⟨k + 1, _, by go_num, rfl, hlt, HO3⟩
    · have hj : ¬ ((k : Int) < ((dig n).length : Int)) := by omega
      have hke : k = (dig n).length := by omega
      have HDN := Lib.hid (HN.out)
      rw [hke] at HDN
      have HDD := Lib.hid HDN.out.done
      have HBB := Lib.hid (HN.out.below.setCell (p := ⟨w.heap.size, 1, none⟩) (Nat.le_refl _) (.int .i64 k))
      subst hke
      have hd2 : (dig n).length ≤ 100000 := by omega
      go_wp2_with fail
      refine (trim_any _ (dig n) _ _ HDD.out hd2).mono ?_
      rintro e w4 ⟨cur, r, hcur, hlast, rfl, hdec, hg4⟩
      have HE := Lib.hid (new_post hn2 hcur hlast hdec hg4 HBB.out)
      clear hcur hlast hdec hg4
      go_wp2_with fail
      go_ret
      exact HE.out
end Go.Proofs.YtjpcdbopioblaaaGreatDoor

/- 'text' of a decimal walked. -/
namespace Go.Proofs.YtjpcdbopioblaaaGreatDoor
open Go.RowKit

/-- Digits i, i+1, .. as letters. -/
def lets (ds : List Nat) (i n : Nat) : List Nat := (List.range n).map fun j => 48 + ds.getD (i + j) 0
theorem lets_succ (ds : List Nat) (i n : Nat) : lets ds i (n + 1) = lets ds i n ++ [48 + ds.getD (i + n) 0] := by simp [lets, List.range_succ]
theorem lets_push (X ds : List Nat) (i n : Nat) : X ++ lets ds i n ++ [48 + ds.getD (i + n) 0] = X ++ lets ds i (n + 1) := by rw [lets_succ, List.append_assoc]
theorem lets_len (ds : List Nat) (i n : Nat) : (lets ds i n).length = n := by simp [lets]
/-- The form f of a decimal. -/
def textL (ds : List Nat) (dp prec : Nat) : List Nat := (if dp = 0 then [48] else lets ds 0 dp) ++ (if prec = 0 then [] else 46 :: lets ds dp prec)
def textB (l : List Nat) : ByteArray := ⟨(l.map UInt8.ofNat).toArray⟩
theorem lets_lt {ds : List Nat} (h : Digs ds) (i n : Nat) : ∀ x ∈ lets ds i n, x < 256 := by
  intro x hx
  simp only [lets, List.mem_map] at hx
  obtain ⟨j, _, rfl⟩ := hx
  have := h.getD (i + j)
  omega
theorem textL_lt {ds : List Nat} (h : Digs ds) (dp prec : Nat) : ∀ x ∈ textL ds dp prec, x < 256 := by
  intro x hx
  simp only [textL, List.mem_append] at hx
  rcases hx with hx | hx
  · split at hx
    · simp at hx; omega
    · exact lets_lt h _ _ _ hx
  · split at hx
    · simp at hx
    · rcases List.mem_cons.1 hx with rfl | hx
      · omega
      · exact lets_lt h _ _ _ hx
/-- Bytes of the call's own, as a string. -/
theorem own_text {B : Nat} {v : Value} {l : List Nat} {W0 w : World} (h : Lib.OwnBuf B 5 v l.length (dgCells l) W0 w) (hl : ∀ x ∈ l, x < 256) : (convert 58 9 v).run Tryz.prog w = .ok (.string (textB l)) w := by
  have hlen : (l.map UInt8.ofNat).length = l.length := by simp
  obtain ⟨hn, ⟨rfl, h0⟩ | ⟨g, cap, cur, fz, rfl, hb, hg, hf, hn2, hc, hcs, htk⟩⟩ := h.1
  · have : l = [] := List.eq_nil_of_length_eq_zero h0
    subst this
    exact Lib.run_convert_nil_bytes w _ _ 5 0 Tryz.underlying58 Tryz.underlying5 Tryz.underlying9
  · rw [← hlen]
    refine run_convert_bytes_back w _ _ 5 ⟨g, 0, none⟩ cap (l.map UInt8.ofNat) Tryz.underlying58 Tryz.underlying5 Tryz.underlying9 (fun j hj => ?_)
    have hj2 : j < l.length := by omega
    have h1 : (cur.toList.take (l.length * 1))[j]? = some (.int .u8 (l[j] : Nat)) := by
      rw [htk]; simp [dgCells, List.getElem?_eq_getElem hj2]
    rw [List.getElem?_take_of_lt (by omega)] at h1
    have e : (⟨g, 0, none⟩ : Addr).add j = ⟨g, j, none⟩ := by unfold Addr.add; split <;> simp_all
    have e2 : (l.map UInt8.ofNat)[j].toNat = l[j] := by
      have := hl l[j] (List.getElem_mem _)
      simp; omega
    rw [e, e2]
    simp only [World.cell?, hg]
    simpa using h1
/-- While the text is laid. -/
structure TX (b : Nat) (ds : List Nat) (dp : Nat) (w : World) (out : List Nat) (v : Value) (wr : World) : Prop where
  dec : DecAt w b ds dp
  own : Lib.OwnBuf w.heap.size 5 v out.length (dgCells out) w wr
theorem TX.here {b : Nat} {ds : List Nat} {dp : Nat} {w : World} {out : List Nat} {v : Value} {wr : World} (h : TX b ds dp w out v wr) : DecAt wr b ds dp := h.dec.kept h.own.2.1
theorem TX.push {b : Nat} {ds : List Nat} {dp : Nat} {w : World} {out : List Nat} {v v' : Value} {wr w3 : World} (h : TX b ds dp w out v wr) {x : Int} (q : Nat) (hq : x = q) (ho : Lib.OwnBuf w.heap.size 5 v' (out.length + 1) (dgCells out ++ [.int .u8 x]) w w3) : TX b ds dp w (out ++ [q]) v' w3 :=
  ⟨h.dec, own_snoc hq.symm ho⟩

set_option maxRecDepth 100000 in
set_option maxHeartbeats 3200000 in
theorem text_any (b : Nat) (ds : List Nat) (dp prec : Nat) (w : World) (h : DecAt w b ds dp) (hd : Digs ds) (hdp : dp ≤ 1000) (hp : prec ≤ 1000) :
    Calls Tryz.prog 205 #[.pointer (some ⟨b, 0, none⟩), .int .i64 prec] w fun e w' => e = .returned (.string (textB (textL ds dp prec))) ∧ Below w.heap.size w w' := by
  have HX0 : Hid (TX b ds dp w [] (.slice none 0 0) w) := Lib.hid ⟨h, World.ownsRowF_nil _ _ _ _, Below.refl _ _, Nat.le_refl _⟩
  have HD := Lib.hid hd
  clear h hd
  obtain ⟨ti, hti, hz0, hz1, hz2⟩ := byteInfo
  have HTI := Lib.hid (And.intro hti (And.intro hz0 (And.intro hz1 hz2)))
  clear hti hz0 hz1 hz2
  go_enter Tryz.func205, Tryz.ntmps205
  go_wp2_with fail
  go_loopg [5, 6] dp (fun gk s5 s6 wr => ∃ (i : Nat) (v : Value), s5 = v ∧ s6 = .int .i64 i ∧ gk = dp - i ∧ i ≤ dp ∧ Hid (TX b ds dp w (lets ds 0 i) v wr))
  case atStart => exact ⟨0, _, rfl, rfl, rfl, Nat.zero_le _, HX0⟩
  case round =>
    obtain ⟨i, v, rfl, rfl, rfl, hi, HX⟩ := hrel
    clear HX0
    obtain ⟨a5, c5, hv⟩ := own_shape HX.out.own.1
    rw [lets_len] at hv
    subst hv
    obtain ⟨a, c, c0, c1, -⟩ := HX.out.here.open
    by_cases hlt : i < dp
    · have hj : (i : Int) < (dp : Int) := by omega
      have hd10 := HD.out.getD i
      have HP := Lib.hid (fun (v' : Value) (w3 : World) (x : Int) (hx : x = ((48 + ds.getD (0 + i) 0 : Nat) : Int)) h => HX.out.push (v' := v') (w3 := w3) (x := x) (48 + ds.getD (0 + i) 0) hx h)
      rw [lets_len, ← lets_succ, Nat.zero_add] at HP
      go_wp2_with fail
      refine (digit_any b ds dp i _ HX.out.here).mono ?_
      rintro e w2 ⟨rfl, rfl⟩
      have HO := Lib.hid HX.out.own
      rw [lets_len] at HO
      generalize ds.getD i 0 = d at *
      go_wp2_with (at_builtin; refine Lib.wpList_append_byte rfl _ _ 58 rfl w.heap.size 5 ti Tryz.underlying58 HTI.out.1 HTI.out.2.1 HTI.out.2.2.1 HTI.out.2.2.2 (.slice a5 i c5) i (dgCells (lets ds 0 i)) rfl w _ (48 + (d : Int)) HO.out rfl (by omega) ?_; intro v' w3 ho3; obtain ⟨a3, c3, hv3⟩ := own_shape ho3.1; subst hv3; have HO3 := Lib.hid (HP.out _ w3 _ (by omega) ho3); clear ho3)
      go_roundg (dp - (i + 1))
      case measure => omega
      case rel => exact ⟨i + 1, _, rfl, by go_num, rfl, by omega, HO3⟩
    · have hj : ¬ ((i : Int) < (dp : Int)) := by omega
      have hie : i = dp := by omega
      subst hie
      by_cases h0 : i = 0
      · subst h0
        have e0 : lets ds 0 0 = [] := rfl
        rw [e0] at HX
        by_cases hp0 : prec = 0
        · subst hp0
          have hE : textL ds 0 0 = [48] := rfl
          go_wp2_with (at_builtin; refine Lib.wpList_append_byte rfl _ _ 58 rfl w.heap.size 5 ti Tryz.underlying58 HTI.out.1 HTI.out.2.1 HTI.out.2.2.1 HTI.out.2.2.2 (.slice a5 0 c5) (0) (dgCells ([] : List Nat)) rfl w _ 48 HX.out.own rfl (by omega) ?_; intro v' w3 ho3; obtain ⟨a3, c3, hv3⟩ := own_shape ho3.1; subst hv3; have HX1 := Lib.hid (HX.out.push (v' := _) (w3 := w3) 48 (by omega) ho3); clear ho3; have hcv := own_text HX1.out.own (by simp); have HB := Lib.hid HX1.out.own.2.1)
          go_ret
          first | exact ⟨rfl, HB.out⟩ | exact ⟨by rw [hE], HB.out⟩
        · have hpp : (0 : Int) < (prec : Int) := by omega
          go_wp2_with (first
            | (at_builtin; refine Lib.wpList_append_byte rfl _ _ 58 rfl w.heap.size 5 ti Tryz.underlying58 HTI.out.1 HTI.out.2.1 HTI.out.2.2.1 HTI.out.2.2.2 (.slice a5 0 c5) (0) (dgCells ([] : List Nat)) rfl w _ 48 HX.out.own rfl (by omega) ?_; intro v' w3 ho3; obtain ⟨a3, c3, hv3⟩ := own_shape ho3.1; subst hv3; have HX1 := Lib.hid (HX.out.push (v' := _) (w3 := w3) 48 (by omega) ho3); clear ho3)
            | (at_builtin; refine Lib.wpList_append_byte rfl _ _ 58 rfl w.heap.size 5 ti Tryz.underlying58 HTI.out.1 HTI.out.2.1 HTI.out.2.2.1 HTI.out.2.2.2 (.slice a3 1 c3) (1) (dgCells [48]) rfl w _ 46 HX1.out.own rfl (by omega) ?_; intro v' w3 ho3; obtain ⟨a3, c3, hv3⟩ := own_shape ho3.1; subst hv3; have HX2 := Lib.hid (HX1.out.push (v' := _) (w3 := w3) 46 (by omega) ho3); clear ho3))
          go_loopg [5, 7] prec (fun gk s5 s7 wr => ∃ (j : Nat) (v : Value), s5 = v ∧ s7 = .int .i64 j ∧ gk = prec - j ∧ j ≤ prec ∧ Hid (TX b ds 0 w ([48] ++ [46] ++ lets ds 0 j) v wr))
          case atStart => exact ⟨0, _, rfl, rfl, rfl, Nat.zero_le _, Lib.hid (by have h := HX2.out; simpa [lets] using h)⟩
          case round =>
            obtain ⟨j, v, rfl, rfl, rfl, hj, HXj⟩ := hrel
            clear HX2
            obtain ⟨nn, hL⟩ : ∃ nn, ([48] ++ [46] ++ lets ds 0 j).length = nn := ⟨_, rfl⟩
            have hnb : nn ≤ 5000 := by rw [← hL]; simp [lets_len]; omega
            obtain ⟨a7, c7, hv⟩ := own_shape HXj.out.own.1
            rw [hL] at hv
            subst hv
            have HO := Lib.hid HXj.out.own
            obtain ⟨b1, b2, d0, d1, -⟩ := HXj.out.here.open
            by_cases hlt2 : j < prec
            · have hjj : (j : Int) < (prec : Int) := by omega
              have hdg := digit_any b ds 0 (0 + j) _ HXj.out.here
              have hd10 := HD.out.getD (0 + j)
              have HP := Lib.hid (fun (v' : Value) (w3 : World) (x : Int) (hx : x = ((48 + ds.getD (0 + j) 0 : Nat) : Int)) h => HXj.out.push (v' := v') (w3 := w3) (x := x) (48 + ds.getD (0 + j) 0) hx h)
              rw [lets_push] at HP
              simp only [Nat.zero_add] at hdg hd10 HP
              have HDG := Lib.hid hdg
              clear hdg
              rw [hL] at HP HO
              have hbnd : nn + 1 ≤ 140737488355328 := by omega
              go_wp2_with fail
              refine (HDG.out).mono ?_
              rintro e w2 ⟨rfl, rfl⟩
              generalize ds.getD j 0 = d at *
              go_wp2_with (at_builtin; refine Lib.wpList_append_byte rfl _ _ 58 rfl w.heap.size 5 ti Tryz.underlying58 HTI.out.1 HTI.out.2.1 HTI.out.2.2.1 HTI.out.2.2.2 (.slice a7 nn c7) nn (dgCells ([48] ++ [46] ++ lets ds 0 j)) rfl w _ (48 + (d : Int)) HO.out rfl hbnd ?_; intro v' w3 ho3; obtain ⟨a3, c3, hv3⟩ := own_shape ho3.1; subst hv3; have HO3 := Lib.hid (HP.out _ w3 _ (by omega) ho3); clear ho3)
              go_roundg (prec - (j + 1))
              case measure => omega
              case rel => exact ⟨j + 1, _, rfl, by go_num, rfl, by omega, HO3⟩
            · have hjj : ¬ ((j : Int) < (prec : Int)) := by omega
              have hje : j = prec := by omega
              subst hje
              have hE : textL ds 0 j = [48] ++ [46] ++ lets ds 0 j := by simp [textL, show j ≠ 0 by omega]
              have hcv := own_text HO.out (by rw [← hE]; exact textL_lt HD.out _ _)
              rw [← hE] at hcv
              have HB := Lib.hid HO.out.2.1
              clear hL hE
              go_wp2_with fail
              go_ret
              exact ⟨rfl, HB.out⟩
      · have hi0 : (0 : Int) < (i : Int) := by omega
        have hie : ((i : Int) == 0) = false := beq_eq_false_iff_ne.2 (by omega)
        have HO5 := Lib.hid HX.out.own
        rw [lets_len] at HO5
        by_cases hp0 : prec = 0
        · subst hp0
          have hE : textL ds i 0 = lets ds 0 i := by simp [textL, h0]
          have hcv := own_text HX.out.own (lets_lt HD.out _ _)
          have HB := Lib.hid HX.out.own.2.1
          go_wp2_with fail
          go_ret
          first | exact ⟨rfl, HB.out⟩ | exact ⟨by rw [hE], HB.out⟩
        · have hpp : (0 : Int) < (prec : Int) := by omega
          have HP5 := Lib.hid (fun (v' : Value) (w3 : World) (x : Int) (hx : x = ((46 : Nat) : Int)) h => HX.out.push (v' := v') (w3 := w3) (x := x) 46 hx h)
          rw [lets_len] at HP5
          go_wp2_with (at_builtin; refine Lib.wpList_append_byte rfl _ _ 58 rfl w.heap.size 5 ti Tryz.underlying58 HTI.out.1 HTI.out.2.1 HTI.out.2.2.1 HTI.out.2.2.2 (.slice a5 i c5) i (dgCells (lets ds 0 i)) rfl w _ 46 HO5.out rfl (by omega) ?_; intro v' w3 ho3; obtain ⟨a3, c3, hv3⟩ := own_shape ho3.1; subst hv3; have HX2 := Lib.hid (HP5.out _ w3 _ rfl ho3); clear ho3)
          go_loopg [5, 7] prec (fun gk s5 s7 wr => ∃ (j : Nat) (v : Value), s5 = v ∧ s7 = .int .i64 j ∧ gk = prec - j ∧ j ≤ prec ∧ Hid (TX b ds i w (lets ds 0 i ++ [46] ++ lets ds i j) v wr))
          case atStart => exact ⟨0, _, rfl, rfl, rfl, Nat.zero_le _, Lib.hid (by have h := HX2.out; simpa [lets] using h)⟩
          case round =>
            obtain ⟨j, v, rfl, rfl, rfl, hj, HXj⟩ := hrel
            clear HX2
            obtain ⟨nn, hL⟩ : ∃ nn, (lets ds 0 i ++ [46] ++ lets ds i j).length = nn := ⟨_, rfl⟩
            have hnb : nn ≤ 5000 := by rw [← hL]; simp [lets_len]; omega
            obtain ⟨a7, c7, hv⟩ := own_shape HXj.out.own.1
            rw [hL] at hv
            subst hv
            have HO := Lib.hid HXj.out.own
            obtain ⟨b1, b2, d0, d1, -⟩ := HXj.out.here.open
            by_cases hlt2 : j < prec
            · have hjj : (j : Int) < (prec : Int) := by omega
              have hdg := digit_any b ds i (i + j) _ HXj.out.here
              simp only [Int.natCast_add] at hdg
              have hd10 := HD.out.getD (i + j)
              have HP := Lib.hid (fun (v' : Value) (w3 : World) (x : Int) (hx : x = ((48 + ds.getD (i + j) 0 : Nat) : Int)) h => HXj.out.push (v' := v') (w3 := w3) (x := x) (48 + ds.getD (i + j) 0) hx h)
              rw [lets_push] at HP
              have HDG := Lib.hid hdg
              clear hdg
              rw [hL] at HP HO
              have hbnd : nn + 1 ≤ 140737488355328 := by omega
              go_wp2_with fail
              refine (HDG.out).mono ?_
              rintro e w2 ⟨rfl, rfl⟩
              generalize ds.getD (i + j) 0 = d at *
              go_wp2_with (at_builtin; refine Lib.wpList_append_byte rfl _ _ 58 rfl w.heap.size 5 ti Tryz.underlying58 HTI.out.1 HTI.out.2.1 HTI.out.2.2.1 HTI.out.2.2.2 (.slice a7 nn c7) nn (dgCells (lets ds 0 i ++ [46] ++ lets ds i j)) rfl w _ (48 + (d : Int)) HO.out rfl hbnd ?_; intro v' w3 ho3; obtain ⟨a3, c3, hv3⟩ := own_shape ho3.1; subst hv3; have HO3 := Lib.hid (HP.out _ w3 _ (by omega) ho3); clear ho3)
              go_roundg (prec - (j + 1))
              case measure => omega
              case rel => exact ⟨j + 1, _, rfl, by go_num, rfl, by omega, HO3⟩
            · have hjj : ¬ ((j : Int) < (prec : Int)) := by omega
              have hje : j = prec := by omega
              subst hje
              have hE : textL ds i j = lets ds 0 i ++ [46] ++ lets ds i j := by simp [textL, show j ≠ 0 by omega, h0]
              have hcv := own_text HO.out (by rw [← hE]; exact textL_lt HD.out _ _)
              rw [← hE] at hcv
              have HB := Lib.hid HO.out.2.1
              clear hL hE
              go_wp2_with fail
              go_ret
              exact ⟨rfl, HB.out⟩
end Go.Proofs.YtjpcdbopioblaaaGreatDoor

/- 'down' and 'up' of a decimal walked. -/
namespace Go.Proofs.YtjpcdbopioblaaaGreatDoor
open Go.RowKit

theorem lt_of_block' {w : World} {k : Nat} {x : Obj} (h : w.heap[k]? = some x) : k < w.heap.size := (Array.getElem?_eq_some_iff.1 h).1
/-- 'append([]byte{}, s...)' at a step of a region that draws its order: a row of the call's own with these digits. -/
theorem step_app0 {ops : Array Oper} {o : Oper} {a : Act} {K : Act → World → Prop} {Q : Exit → Act → World → Prop} {Ex : Prop} {w : World} (hgd : o.guard = none) (s x : Operand)
    (ho : o.op = .call { callee := .builtin .append, args := #[s, x], argTypes := #[58, 58] }) (E g m c : Nat) (ds : List Nat)
    (hs : a.eval s = .slice (some ⟨E, 0, none⟩) 0 0) (hx : a.eval x = .slice (some ⟨g, 0, none⟩) m c) (hE : w.heap[E]? = some (.cells #[] 5 (0, 0))) (hm : m = ds.length) (hds : ∀ j (h : j < ds.length), w.cell? ⟨g, j, none⟩ = some (.int .u8 (ds[j] : Nat))) (hlen : ds.length ≤ 100000)
    (h : ∀ a' c' w', w'.ownsRow E 5 1 (.slice a' m c') m (dgCells ds) → w.grownBy w' (some E) → K (a.put o.dst (.slice a' m c')) w') : if Region.wanted o (yielded ops a.tmps) = true then Oper.wp Tryz.prog o a w K Q else Ex := by
  subst hm
  have hw : Region.wanted o (yielded ops a.tmps) = true := by simp [Region.wanted, hgd]
  rw [if_pos hw]
  obtain ⟨ti, hti, hz0, hz1, hz2⟩ := byteInfo
  have hown : w.ownsRow E 5 1 (.slice (some ⟨E, 0, none⟩) 0 0) 0 [] := ⟨rfl, .inr ⟨E, 0, #[], rfl, Nat.le_refl _, hE, Nat.le_refl _, by unfold maxLen; omega, rfl, rfl⟩⟩
  obtain ⟨v', w', hr, h2, h3, h4⟩ := run_append_own (P := Tryz.prog) w E 58 o.type 5 ti (.int .u8 0) 1 1 Tryz.underlying58 hti hz0 hz1 hz2 rfl (by decide) _ 0 [] hown ⟨g, 0, none⟩ ds.length c (dgCells ds) (by simp [dgCells])
    (fun j u hj => by
      have e : (⟨g, 0, none⟩ : Addr).add j = ⟨g, j, none⟩ := by unfold Addr.add; split <;> simp_all
      have hj2 : j < ds.length := by have := (List.getElem?_eq_some_iff.1 hj).1; simpa [dgCells] using this
      rw [e, hds j hj2]
      simp [dgCells, List.getElem?_eq_getElem hj2] at hj
      rw [← hj]) (fun u hu => by simp only [dgCells, List.mem_map] at hu; obtain ⟨_, _, rfl⟩ := hu; rfl) (by unfold maxLen; omega) (by omega) (Nat.le_of_lt (lt_of_block hE))
  rw [Nat.zero_add, List.nil_append] at h2
  obtain ⟨a', c', rfl⟩ := own_shape (World.ownsRowF_of h2)
  unfold Oper.wp execOp
  simp only [ho, resolve, invoke, builtin, Sem.run_bind, Sem.run_pure, Result.andThen_ok, List.map_toArray, List.map_cons, List.map_nil, hs, hx, hr]
  exact h _ _ _ h2 h3

theorem hb_keep {w : World} {k : Nat} {x o : Obj} (h : w.heap[k]? = some x) : (w.alloc o).heap[k]? = some x := (heap_alloc_old w o (lt_of_block' h)).trans h
theorem hp_drew (w : World) : w.drew.heap = w.heap := rfl
theorem hp_alloc (w : World) (o : Obj) : (w.alloc o).heap = w.heap.push o := rfl
theorem hb_new {w : World} {k : Nat} {o : Obj} (h : k = w.heap.size) : (w.alloc o).heap[k]? = some o := by subst h; exact heap_alloc_new w o
theorem heap2_0 (w : World) (A B : Obj) : ((w.alloc A).alloc B).heap[w.heap.size]? = some A := (heap_alloc_old _ B (by simp)).trans (heap_alloc_new w A)
theorem heap2_1 (w : World) (A B : Obj) : ((w.alloc A).alloc B).heap[w.heap.size + 1]? = some B := hb_new (by simp)
theorem hb_drew {w : World} {k : Nat} {x : Obj} (h : w.heap[k]? = some x) : w.drew.heap[k]? = some x := h
theorem far_bind {W w' : World} {E D : Nat} {x y : Value} {G : Prop} (hg : W.grownBy w' (some E)) (hE : W.heap[E]? = some (.cells #[] 5 (0, 0))) (hD : W.heap[D]? = some (.cells #[x, y] 239 (0, 0))) (k : w'.heap[D]? = some (.cells #[x, y] 239 (0, 0)) → w'.cell? ⟨D, 0, none⟩ = some x → w'.cell? ⟨D, 1, none⟩ = some y → w'.frozen? ⟨D, 0, none⟩ = false → w'.frozen? ⟨D, 1, none⟩ = false → G) : G := by
  have hne : D ≠ E := by
    rintro rfl
    rw [hE] at hD
    injection hD with hD
    injection hD with _ hD
    exact absurd hD (by decide)
  have h := (hg.block D (lt_of_block' hD) (fun e => hne (by injection e))).trans hD
  exact k h (by simp [World.cell?, h]) (by simp [World.cell?, h]) (by simp [World.frozen?, h]) (by simp [World.frozen?, h])
theorem take_cells {w W : World} {g : Nat} {ds : List Nat} (n : Nat) (h : ∀ j (hj : j < ds.length), w.cell? ⟨g, j, none⟩ = some (.int .u8 (ds[j] : Nat))) (hb : Below w.heap.size w W) : ∀ j (hj : j < (ds.take n).length), W.cell? ⟨g, j, none⟩ = some (.int .u8 ((ds.take n)[j] : Nat)) := by
  intro j hj
  have hj2 : j < ds.length := by rw [List.length_take] at hj; omega
  have h1 := h j hj2
  have hlt : g < w.heap.size := by
    refine Classical.byContradiction fun hh => ?_
    simp [World.cell?, Array.getElem?_eq_none (Nat.le_of_not_lt hh)] at h1
  rw [cell_of_below hb hlt, h1]
  simp
theorem dec_build {W : World} {D E n c : Nat} {a : Option Addr} {ds : List Nat} {dp : Int} {x y : Value} (hd : W.heap[D]? = some (.cells #[x, y] 239 (0, 0))) (ho : W.ownsRowF E 5 1 (.slice a n c) n (dgCells ds)) (hn : n = ds.length) : DecAt ((W.setCell ⟨D, 0, none⟩ (.slice a n c)).setCell ⟨D, 1, none⟩ (.int .i64 dp)) D ds dp := by
  subst hn
  have hr := drow_of ho
  have hb1 := Lib.heap_setCell_same hd (i := 0) (.slice a ds.length c)
  have hb2 := Lib.heap_setCell_same hb1 (i := 1) (.int .i64 dp)
  obtain ⟨a0, c0, hv, hle, hcell⟩ := hr
  injection hv with e1 e2 e3
  subst e1 e3
  refine ⟨.slice a ds.length c, by simpa using hb2, a, c, rfl, hle, fun j hj => ?_⟩
  obtain ⟨g, rfl, hc⟩ := hcell j hj
  refine ⟨g, rfl, ?_⟩
  have hne : g ≠ D := by
    rintro rfl
    obtain ⟨-, ⟨h, h0⟩ | ⟨g', cap, cur, fz, h, -, hg, -⟩⟩ := ho
    · simp at h
    · injection h with h
      injection h with h
      injection h with h
      subst h
      rw [hd] at hg
      injection hg with hg
      injection hg with _ hg
      exact absurd hg (by decide)
  rw [World.cell?_setCell_other _ _ _ _ (by intro e; injection e with e; exact hne e.symm), World.cell?_setCell_other _ _ _ _ (by intro e; injection e with e; exact hne e.symm)]
  exact hc

theorem dec_new {W : World} {E n c : Nat} {a : Option Addr} {ds : List Nat} {dp : Int} (ho : W.ownsRowF E 5 1 (.slice a n c) n (dgCells ds)) (hn : n = ds.length) : DecAt (W.alloc (.cells #[.slice a n c, .int .i64 dp] 239)) W.heap.size ds dp := by
  subst hn
  exact ⟨_, heap_alloc_new W _, (drow_of ho).kept ((Below.refl _ _).alloc (Nat.le_refl _) _)⟩
theorem below_new {w W : World} {o : Obj} (h : Below w.heap.size w W) : Below w.heap.size w (W.alloc o) := h.alloc h.size o
theorem below_set2 {w W : World} {D : Nat} {x y : Value} (h : Below w.heap.size w W) (hD : w.heap.size ≤ D) : Below w.heap.size w ((W.setCell ⟨D, 0, none⟩ x).setCell ⟨D, 1, none⟩ y) := (h.setCell (p := ⟨D, 0, none⟩) hD x).setCell (p := ⟨D, 1, none⟩) hD y
/-- What 'down' gives. -/
def DownPost (ds : List Nat) (dp n : Nat) (w : World) (e : Ending) (w' : World) : Prop := ∃ D cur r, e = .returned (.pointer (some ⟨D, 0, none⟩)) ∧ ds.take n = cur ++ List.replicate r 0 ∧ DecAt w' D cur (if cur = [] then 0 else (dp : Int)) ∧ Below w.heap.size w w' ∧ (cur ≠ [] → cur.getD (cur.length - 1) 0 ≠ 0) ∧ w.heap.size ≤ D
theorem down_fin {w W W1 w4 : World} {D n dp r : Nat} {ds cur : List Nat} (_ : Below w.heap.size w W) (hcur : ds.take n = cur ++ List.replicate r 0) (hlast : cur ≠ [] → cur.getD (cur.length - 1) 0 ≠ 0) (hdec : DecAt w4 D cur (if cur = [] then 0 else (dp : Int))) (hg : W1.grownBy w4 (some D)) (hB : Below w.heap.size w W1) (hD : w.heap.size ≤ D) : DownPost ds dp n w (.returned (.pointer (some ⟨D, 0, none⟩))) w4 :=
  ⟨D, cur, r, rfl, hcur, hdec, below_gb hB hg hB.size hD, hlast, hD⟩

set_option maxRecDepth 100000 in
set_option maxHeartbeats 3200000 in
theorem down_any (b : Nat) (ds : List Nat) (dp n : Nat) (w : World) (h : DecAt w b ds dp) (hn : n < ds.length) (hl : ds.length ≤ 1000) :
    Calls Tryz.prog 240 #[.pointer (some ⟨b, 0, none⟩), .int .i64 n] w (DownPost ds dp n w) := by
  have H := Lib.hid h
  obtain ⟨a, c, c0, c1, hcell⟩ := h.open
  have hcap := h.cap c0
  obtain ⟨g, rfl, hg0⟩ := hcell 0 (by omega)
  have HC : Hid (∀ j (hj : j < ds.length), w.cell? ⟨g, j, none⟩ = some (.int .u8 (ds[j] : Nat))) := Lib.hid (fun j hj => by
    obtain ⟨g', hg', hc⟩ := hcell j hj
    injection hg' with hg'
    injection hg' with hg'
    subst hg'
    exact hc)
  clear h hcell hg0
  have hj : (n : Int) < (ds.length : Int) := by omega
  have hj2 : (0 : Int) ≤ (n : Int) := by omega
  have hj3 : (n : Int) ≤ (c : Int) := by omega
  have k0 := World.new_ne w _ c0
  have k1 := World.new_ne w _ c1
  go_enter Tryz.func240, Tryz.ntmps240
  go_wp2_with fail
  have hbl' : b < w.heap.size := H.out.lt
  have kb0 : ¬ b = w.heap.size := by omega
  have kb1 : ¬ b = w.heap.size + 1 := by omega
  have kb2 : ¬ w.heap.size = b := by omega
  have kb3 : ¬ w.heap.size + 1 = b := by omega
  have hnt : Hid (n = (ds.take n).length) := Lib.hid (by simp; omega)
  have hnl : (ds.take n).length ≤ 100000 := by simp; omega
  go_region_held3 (fun W : World => W.cell? ⟨b, 0, none⟩ = some (.slice (some ⟨g, 0, none⟩) ds.length c) ∧ W.cell? ⟨b, 1, none⟩ = some (.int .i64 dp)) (go_keep) ((refine step_app0 (by rfl) _ _ (by rfl) _ g n c (ds.take n) (by rfl) (by rfl) (by simp only [hp_drew, hp_alloc, Array.getElem?_push, Array.size_push]; simp) hnt.out (take_cells n HC.out (by repeat (first | exact Below.refl _ _ | refine Below.drew ?_ | refine Below.alloc ?_ (by simp <;> omega) _))) hnl ?_; intro a' c' w' ho hg; have HR := Lib.hid ho; have HO := Lib.hid (World.ownsRowF_of ho); have hB := (show Below w.heap.size w _ from by repeat (first | exact Below.refl _ _ | refine Below.drew ?_ | refine Below.alloc ?_ (by simp <;> omega) _)).grown hg (by simp <;> omega) (fun k hk => by simp at hk; omega); have e0 := (cell_of_below (j := 0) hB hbl').trans c0; have e1 := (cell_of_below (j := 1) hB hbl').trans c1; have HB := Lib.hid hB; (first | (refine far_bind (x := .slice none 0 0) (y := .int .i64 0) (D := w.heap.size) hg ?_ ?_ ?_; (focus (first | exact heap2_0 _ _ _ | exact heap2_1 _ _ _)); (focus (first | exact heap2_0 _ _ _ | exact heap2_1 _ _ _)); intro hD d0 d1 d2 d3; have HD := Lib.hid hD; clear hD) | (refine far_bind (x := .slice none 0 0) (y := .int .i64 0) (D := w.heap.size + 1) hg ?_ ?_ ?_; (focus (first | exact heap2_0 _ _ _ | exact heap2_1 _ _ _)); (focus (first | exact heap2_0 _ _ _ | exact heap2_1 _ _ _)); intro hD d0 d1 d2 d3; have HD := Lib.hid hD; clear hD) | skip); clear ho hg hB))
  all_goals (
    clear k0 k1 kb0 kb1 kb2 kb3 e0 e1
    go_wp2_with fail
    refine (trim_any _ (ds.take n) (dp : Int) _ (by first | exact dec_new HO.out hnt.out | exact dec_build HD.out HO.out hnt.out) hnl).mono ?_
    rintro e w4 ⟨cur, r, hcur, hlast, rfl, hdec, hg4⟩
    have HE := Lib.hid (down_fin HB.out hcur hlast hdec hg4 (by first | exact below_new HB.out | exact below_set2 HB.out (by omega)) (by first | omega | exact HB.out.size))
    clear hcur hlast hdec hg4
    go_wp2_with fail
    go_ret
    exact HE.out)
end Go.Proofs.YtjpcdbopioblaaaGreatDoor

/- What 'up' and 'down' of a decimal stand for, and the text of a half. No walk, no program. -/
namespace Go.Proofs.YtjpcdbopioblaaaGreatDoor

theorem getD_take {l : List Nat} {i j : Nat} (h : j < i) : (l.take i).getD j 0 = l.getD j 0 := by
  simp only [List.getD_eq_getElem?_getD, List.getElem?_take_of_lt h]
theorem numP_cong {l l' : List Nat} : ∀ {n : Nat}, (∀ i, i < n → l.getD i 0 = l'.getD i 0) → numP l n = numP l' n
  | 0, _ => rfl
  | n + 1, h => by
    show 10 * numP l n + l.getD n 0 = 10 * numP l' n + l'.getD n 0
    rw [numP_cong fun i hi => h i (by omega), h n (by omega)]
theorem numP_up {ds : List Nat} {i : Nat} (hi : i < ds.length) : numP (ds.take i ++ [ds.getD i 0 + 1]) (i + 1) = numP ds (i + 1) + 1 := by
  have hl : (ds.take i).length = i := by rw [List.length_take]; omega
  show 10 * numP _ i + _ = 10 * numP ds i + ds.getD i 0 + 1
  have e1 : numP (ds.take i ++ [ds.getD i 0 + 1]) i = numP ds i := numP_cong fun j hj => by
    rw [List.getD_eq_getElem?_getD, List.getElem?_append_left (by omega), ← List.getD_eq_getElem?_getD, getD_take hj]
  have e2 : (ds.take i ++ [ds.getD i 0 + 1]).getD i 0 = ds.getD i 0 + 1 := by
    rw [List.getD_eq_getElem?_getD, List.getElem?_append_right (by omega), hl, Nat.sub_self]; rfl
  rw [e1, e2]
  omega
/-- Nines behind a place. -/
theorem nines {ds : List Nat} {i : Nat} : ∀ k, (∀ j, i ≤ j → j < i + k → ds.getD j 0 = 9) → (numP ds i + 1) * 10 ^ k = numP ds (i + k) + 1
  | 0, _ => by simp
  | k + 1, h => by
    have ih := nines k (fun j h1 h2 => h j h1 (by omega))
    have e : numP ds (i + (k + 1)) = 10 * numP ds (i + k) + ds.getD (i + k) 0 := rfl
    rw [e, h (i + k) (by omega) (by omega), Nat.pow_succ, ← Nat.mul_assoc, ih]
    omega
theorem up_one {ds : List Nat} {dp n i : Nat} (hn : n < ds.length) (hnd : n ≤ dp) (hi : i < n) (h9 : ∀ j, i + 1 ≤ j → j < n → ds.getD j 0 = 9) :
    DVal (ds.take i ++ [ds.getD i 0 + 1]) dp ((numP ds n + 1) * 10 ^ (dp - n)) 1 := by
  have hl : (ds.take i ++ [ds.getD i 0 + 1]).length = i + 1 := by simp; omega
  refine ⟨0, by omega, ?_⟩
  have e1 : dp + 0 = (i + 1) + (dp - (i + 1)) := by omega
  rw [e1, numP_far _ (by omega), numP_up (by omega)]
  have h1 := nines (ds := ds) (i := i + 1) (n - (i + 1)) (fun j h1 h2 => h9 j h1 (by omega))
  have e2 : i + 1 + (n - (i + 1)) = n := by omega
  rw [e2] at h1
  rw [← h1, Nat.mul_one, Nat.pow_zero, Nat.mul_one, Nat.mul_assoc, ← Nat.pow_add]
  congr 2
  omega
theorem up_all {ds : List Nat} {dp n : Nat} (hnd : n ≤ dp) (h9 : ∀ j, j < n → ds.getD j 0 = 9) : DVal [1] (dp + 1) ((numP ds n + 1) * 10 ^ (dp - n)) 1 := by
  refine ⟨0, by simp, ?_⟩
  have h1 := nines (ds := ds) (i := 0) n (fun j _ h2 => h9 j (by omega))
  rw [Nat.zero_add] at h1
  have e1 : dp + 1 + 0 = 1 + dp := by omega
  have e0 : numP ds 0 = 0 := rfl
  have e3 : numP [1] 1 = 1 := rfl
  have e4 : n + (dp - n) = dp := by omega
  rw [e1, numP_far [1] (Nat.le_refl 1), e3, ← h1, e0, Nat.mul_one, Nat.pow_zero, Nat.mul_one, Nat.mul_assoc, ← Nat.pow_add, e4]
/-- What is cut away behind n digits, zeros at the end too. -/
theorem numP_cut {ds cur : List Nat} {n r : Nat} (hn : n ≤ ds.length) (h : ds.take n = cur ++ List.replicate r 0) : ∀ i, n ≤ i → numP cur i = numP ds n * 10 ^ (i - n) := by
  have hlen : cur.length ≤ n := by have := congrArg List.length h; simp at this; omega
  have e1 : numP cur n = numP (ds.take n) n := by
    rw [h]
    refine numP_cong fun j _ => ?_
    rw [List.getD_eq_getElem?_getD, List.getD_eq_getElem?_getD]
    by_cases hj : j < cur.length
    · rw [List.getElem?_append_left hj]
    · rw [List.getElem?_append_right (by omega), List.getElem?_eq_none (by omega), List.getElem?_replicate]
      split <;> rfl
  have e2 : numP (ds.take n) n = numP ds n := numP_cong fun j hj => getD_take hj
  intro i hi
  have e3 : i = n + (i - n) := by omega
  conv => lhs; rw [e3]
  rw [numP_far cur hlen, e1, e2]
theorem leD_nil {A : List Nat} {a b c : Nat} (h : LeD A a [] b) : LeD A a [] c := by
  obtain ⟨j0, hj⟩ := h
  have hz : ∀ n, numP [] n = 0 := fun n => by
    induction n with
    | zero => rfl
    | succ n ih => show 10 * numP [] n + _ = 0; rw [ih]; rfl
  exact ⟨j0, fun j h => by have := hj j h; rw [hz] at this ⊢; exact this⟩

/-- A number's digits as they stand ahead of the point. -/
theorem dig_of_first {ds : List Nat} {dp : Nat} (hd : Digs ds) (h0 : ds.getD 0 0 ≠ 0) (hdp : 0 < dp) : (List.range dp).map (fun j => ds.getD j 0) = dig (numP ds dp) := by
  have hl : ((List.range dp).map (fun j => ds.getD j 0)).length = dp := by simp
  have hg : ∀ i, i < dp → ((List.range dp).map (fun j => ds.getD j 0)).getD i 0 = ds.getD i 0 := fun i hi => by
    rw [List.getD_eq_getElem?_getD, List.getElem?_map, List.getElem?_range hi]; rfl
  have hn : numL ((List.range dp).map (fun j => ds.getD j 0)) = numP ds dp := by
    rw [← numP_all, hl]
    exact numP_cong hg
  have h1 := dig_unique (dp - 1) ((List.range dp).map (fun j => ds.getD j 0)) (by rw [hl]; omega) (fun d hdd => by
    obtain ⟨j, _, rfl⟩ := List.mem_map.1 hdd
    exact hd.getD j) (by rw [hg 0 hdp]; exact h0)
  rw [hn] at h1
  exact h1
end Go.Proofs.YtjpcdbopioblaaaGreatDoor

/- 'up' of a decimal walked. -/
namespace Go.Proofs.YtjpcdbopioblaaaGreatDoor
open Go.RowKit

/-- A decimal whose digits lie in a row that may be written. -/
def DecF (W : World) (D g c : Nat) (ds : List Nat) (dp : Int) : Prop := W.heap[D]? = some (.cells #[.slice (some ⟨g, 0, none⟩) ds.length c, .int .i64 dp] 239 (0, 0)) ∧ ds.length ≤ c ∧
  ∃ cur : Array Value, W.heap[g]? = some (.cells cur 5 (0, 0)) ∧ ds.length ≤ cur.size ∧ ∀ j (h : j < ds.length), cur[j]? = some (.int .u8 (ds[j] : Nat))
theorem DecF.ne {W : World} {D g c : Nat} {ds : List Nat} {dp : Int} (h : DecF W D g c ds dp) : g ≠ D := by
  obtain ⟨h1, _, cur, h2, _⟩ := h
  rintro rfl
  rw [h1] at h2
  injection h2 with h2
  injection h2 with _ h2
  exact absurd h2 (by decide)
theorem DecF.at {W : World} {D g c : Nat} {ds : List Nat} {dp : Int} (h : DecF W D g c ds dp) : DecAt W D ds dp := by
  obtain ⟨h1, h2, cur, h3, h4, h5⟩ := h
  exact ⟨_, h1, _, c, rfl, h2, fun j hj => ⟨g, rfl, by simp [World.cell?, h3, h5 j hj]⟩⟩
/-- The last digit raised. -/
theorem DecF.inc {W : World} {D g c i x : Nat} {pre : List Nat} {dp : Int} (h : DecF W D g c (pre ++ [x]) dp) (hi : i = pre.length) (y : Nat) : DecF (W.setCell ⟨g, i, none⟩ (.int .u8 (y : Nat))) D g c (pre ++ [y]) dp := by
  subst hi
  have hne := h.ne
  obtain ⟨h1, h2, cur, h3, h4, h5⟩ := h
  refine ⟨?_, by simpa using h2, cur.setIfInBounds pre.length (.int .u8 (y : Nat)), by simpa using Lib.heap_setCell_same h3 (i := pre.length) (.int .u8 (y : Nat)), by simpa using h4, fun j hj => ?_⟩
  · rw [heap_setCell_other _ _ _ _ (by exact fun e => hne e.symm)]
    simpa using h1
  · simp at h4 hj
    by_cases hj2 : j = pre.length
    · subst hj2
      simp [Array.getElem?_setIfInBounds]
      omega
    · have h6 := h5 j (by simp; omega)
      rw [Array.getElem?_setIfInBounds_ne (by omega), h6]
      rw [List.getElem_append_left (by omega), List.getElem_append_left (by omega)]
theorem row_open {W : World} {E n c : Nat} {a : Option Addr} {ds : List Nat} (ho : W.ownsRow E 5 1 (.slice a n c) n (dgCells ds)) (hn : n = ds.length) (hpos : 0 < n) :
    ∃ g cur, a = some ⟨g, 0, none⟩ ∧ n ≤ c ∧ E ≤ g ∧ W.heap[g]? = some (.cells cur 5 (0, 0)) ∧ ds.length ≤ cur.size ∧ ∀ j (h : j < ds.length), cur[j]? = some (.int .u8 (ds[j] : Nat)) := by
  subst hn
  obtain ⟨hl, ⟨_, h0⟩ | ⟨g, cap, cur, hv, hb, hg, hc, hcs, hsz, htk⟩⟩ := ho
  · omega
  · injection hv with e1 e2 e3
    subst e1 e3
    refine ⟨g, cur, rfl, hc, hb, hg, by omega, fun j hj => ?_⟩
    have h1 : (cur.toList.take (ds.length * 1))[j]? = some (.int .u8 (ds[j] : Nat)) := by
      rw [htk]; simp [dgCells, List.getElem?_eq_getElem hj]
    rw [List.getElem?_take_of_lt (by omega)] at h1
    simpa using h1
theorem decF_new {w W : World} {E n c : Nat} {a : Option Addr} {ds : List Nat} {dp : Int} (ho : W.ownsRow E 5 1 (.slice a n c) n (dgCells ds)) (hn : n = ds.length) (hpos : 0 < n) (hE : w.heap.size ≤ E) : ∃ g, a = some ⟨g, 0, none⟩ ∧ w.heap.size ≤ g ∧ DecF (W.alloc (.cells #[.slice a n c, .int .i64 dp] 239)) W.heap.size g c ds dp := by
  obtain ⟨g, cur, rfl, hc, hE2, hg, h1, h2⟩ := row_open ho hn hpos
  subst hn
  exact ⟨g, rfl, Nat.le_trans hE hE2, heap_alloc_new W _, hc, cur, (heap_alloc_old W _ (lt_of_block' hg)).trans hg, h1, h2⟩
theorem decF_build {w W : World} {D E n c : Nat} {a : Option Addr} {ds : List Nat} {dp : Int} {x y : Value} (hd : W.heap[D]? = some (.cells #[x, y] 239 (0, 0))) (ho : W.ownsRow E 5 1 (.slice a n c) n (dgCells ds)) (hn : n = ds.length) (hpos : 0 < n) (hE : w.heap.size ≤ E) : ∃ g, a = some ⟨g, 0, none⟩ ∧ w.heap.size ≤ g ∧ DecF ((W.setCell ⟨D, 0, none⟩ (.slice a n c)).setCell ⟨D, 1, none⟩ (.int .i64 dp)) D g c ds dp := by
  obtain ⟨g, cur, rfl, hc, hE2, hg, h1, h2⟩ := row_open ho hn hpos
  subst hn
  have hne : g ≠ D := by
    rintro rfl
    rw [hd] at hg
    injection hg with hg
    injection hg with _ hg
    exact absurd hg (by decide)
  have hb1 := Lib.heap_setCell_same hd (i := 0) (.slice (some ⟨g, 0, none⟩) ds.length c)
  have hb2 := Lib.heap_setCell_same hb1 (i := 1) (.int .i64 dp)
  exact ⟨g, rfl, Nat.le_trans hE hE2, by simpa using hb2, hc, cur, by rw [heap_setCell_other _ _ _ _ hne, heap_setCell_other _ _ _ _ hne]; exact hg, h1, h2⟩
theorem DecF.open {W : World} {D g c i x : Nat} {pre : List Nat} {dp : Int} (h : DecF W D g c (pre ++ [x]) dp) (hi : pre.length = i) : W.cell? ⟨D, 0, none⟩ = some (.slice (some ⟨g, 0, none⟩) (i + 1) c) ∧ W.cell? ⟨g, i, none⟩ = some (.int .u8 (x : Nat)) ∧ W.frozen? ⟨g, i, none⟩ = false := by
  subst hi
  obtain ⟨h1, h2, cur, h3, h4, h5⟩ := h
  refine ⟨by simp [World.cell?, h1], ?_, by simp [World.frozen?, h3]⟩
  have := h5 pre.length (by simp)
  simpa [World.cell?, h3] using this
def UpMid (w : World) (D : Nat) (a : Option Addr) (c : Nat) (l : List Nat) (dp : Int) (W1 : World) : Prop := ∃ g, a = some ⟨g, 0, none⟩ ∧ w.heap.size ≤ g ∧ DecF W1 D g c l dp ∧ Below w.heap.size w W1
theorem mid_new {w W : World} {E n c : Nat} {a : Option Addr} {ds : List Nat} {dp : Int} (ho : W.ownsRow E 5 1 (.slice a n c) n (dgCells ds)) (hn : n = ds.length) (hpos : 0 < n) (hE : w.heap.size ≤ E) (hb : Below w.heap.size w W) : UpMid w W.heap.size a c ds dp (W.alloc (.cells #[.slice a n c, .int .i64 dp] 239)) := by
  obtain ⟨g, h1, h2, h3⟩ := decF_new (w := w) (dp := dp) ho hn hpos hE
  exact ⟨g, h1, h2, h3, below_new hb⟩
theorem mid_build {w W : World} {D E n c : Nat} {a : Option Addr} {ds : List Nat} {dp : Int} {x y : Value} (hd : W.heap[D]? = some (.cells #[x, y] 239 (0, 0))) (ho : W.ownsRow E 5 1 (.slice a n c) n (dgCells ds)) (hn : n = ds.length) (hpos : 0 < n) (hE : w.heap.size ≤ E) (hb : Below w.heap.size w W) (hD : w.heap.size ≤ D) : UpMid w D a c ds dp ((W.setCell ⟨D, 0, none⟩ (.slice a n c)).setCell ⟨D, 1, none⟩ (.int .i64 dp)) := by
  obtain ⟨g, h1, h2, h3⟩ := decF_build (w := w) (dp := dp) hd ho hn hpos hE
  exact ⟨g, h1, h2, h3, below_set2 hb hD⟩
theorem UpMid.drew {w : World} {D : Nat} {a : Option Addr} {c : Nat} {l : List Nat} {dp : Int} {W1 : World} (h : UpMid w D a c l dp W1) : UpMid w D a c l dp W1.drew := by
  obtain ⟨g, h1, h2, h3, h4⟩ := h
  exact ⟨g, h1, h2, h3, h4.drew⟩
/-- What 'up' gives. -/
def UpPost (ds : List Nat) (dp n : Nat) (w : World) (e : Ending) (w' : World) : Prop := ∃ D U, ∃ dpu : Nat, e = .returned (.pointer (some ⟨D, 0, none⟩)) ∧ DecAt w' D U dpu ∧ Below w.heap.size w w' ∧ Digs U ∧ U ≠ [] ∧ U.length ≤ n + 1 ∧ dpu ≤ dp + 1 ∧ DVal U dpu ((numP ds n + 1) * 10 ^ (dp - n)) 1
theorem up_fin {w W : World} {D g c i n dp : Nat} {ds : List Nat} (h : DecF W D g c (ds.take i ++ [ds.getD i 0]) dp) (hb : Below w.heap.size w W) (hg : w.heap.size ≤ g) (hd : Digs ds) (hn : n < ds.length) (hnd : n ≤ dp) (hi : i < n) (h9 : ds.getD i 0 < 9) (hall : ∀ j, i + 1 ≤ j → j < n → ds.getD j 0 = 9) (x : Int) (hx : x = ((ds.getD i 0 + 1 : Nat) : Int)) :
    UpPost ds dp n w (.returned (.pointer (some ⟨D, 0, none⟩))) (W.setCell ⟨g, i, none⟩ (.int .u8 x)) := by
  subst hx
  have hl : (ds.take i).length = i := by rw [List.length_take]; omega
  refine ⟨D, ds.take i ++ [ds.getD i 0 + 1], dp, rfl, (h.inc hl.symm (ds.getD i 0 + 1)).at, hb.setCell (p := ⟨g, i, none⟩) hg _, ?_, by simp, by simp; omega, by omega, up_one hn hnd hi hall⟩
  intro d hdd
  rcases List.mem_append.1 hdd with hdd | hdd
  · exact hd d (List.mem_of_mem_take hdd)
  · have := List.mem_singleton.1 hdd; omega
theorem all_fin {w : World} {n dp : Nat} {ds : List Nat} (hnd : n ≤ dp) (h9 : ∀ j, j < n → ds.getD j 0 = 9) {x : Int} (hx : x = ((dp + 1 : Nat) : Int)) : UpPost ds dp n w (.returned (.pointer (some ⟨w.heap.size + 1, 0, none⟩))) ((w.alloc (.cells #[.int .u8 1] 5)).alloc (.cells #[.slice (some ⟨w.heap.size, 0, none⟩) 1 1, .int .i64 x] 239)) := by
  subst hx
  refine ⟨w.heap.size + 1, [1], dp + 1, rfl, ⟨_, heap2_1 w _ _, _, 1, rfl, Nat.le_refl _, fun j hj => ⟨w.heap.size, rfl, ?_⟩⟩, ((Below.refl _ w).alloc (Nat.le_refl _) _).alloc (by simp) _, fun d hd => by simp at hd; omega, by simp, by simp, Nat.le_refl _, up_all hnd h9⟩
  have : j = 0 := by simp at hj; exact hj
  subst this
  have h := heap2_0 w (.cells #[.int .u8 1] 5) (.cells #[.slice (some ⟨w.heap.size, 0, none⟩) 1 1, .int .i64 ((dp + 1 : Nat) : Int)] 239)
  simp only [World.cell?, h]
  rfl
theorem world_named {K : Act → World → Prop} {Q : Exit → Act → World → Prop} {e : Exit} {a : Act} {W : World} (P : World → Prop) (hP : P W) (h : ∀ W1, P W1 → Exit.then K Q e a W1) : Exit.then K Q e a W := h W hP
theorem take_snoc {ds : List Nat} {i : Nat} (h : i < ds.length) : ds.take (i + 1) = ds.take i ++ [ds.getD i 0] := by
  rw [List.take_succ_eq_append_getElem h, List.getD_eq_getElem?_getD, List.getElem?_eq_getElem h]; rfl

set_option maxRecDepth 100000 in
set_option maxHeartbeats 3200000 in
theorem up_any (b : Nat) (ds : List Nat) (dp n : Nat) (w : World) (h : DecAt w b ds dp) (hd : Digs ds) (hn : n < ds.length) (hnd : n ≤ dp) (hl : ds.length ≤ 1000) (hdp : dp ≤ 1000) :
    Calls Tryz.prog 241 #[.pointer (some ⟨b, 0, none⟩), .int .i64 n] w (UpPost ds dp n w) := by
  have H := Lib.hid h
  have HDG := Lib.hid hd
  obtain ⟨a, c, c0, c1, hcell⟩ := h.open
  have hcap := h.cap c0
  obtain ⟨g, rfl, hg0⟩ := hcell 0 (by omega)
  have HC : Hid (∀ j (hj : j < ds.length), w.cell? ⟨g, j, none⟩ = some (.int .u8 (ds[j] : Nat))) := Lib.hid (fun j hj => by
    obtain ⟨g', hg', hc⟩ := hcell j hj
    injection hg' with hg'
    injection hg' with hg'
    subst hg'
    exact hc)
  clear h hd hcell hg0
  have hj : (n : Int) < (ds.length : Int) := by omega
  have k0 := World.new_ne w _ c0
  have k1 := World.new_ne w _ c1
  go_enter Tryz.func241, Tryz.ntmps241
  go_wp2_with fail
  go_loopg [5] n (fun gk s5 wr => w = wr ∧ Hid (∀ j, gk ≤ j → j < n → ds.getD j 0 = 9) ∧ gk ≤ n ∧ ((∃ i : Nat, s5 = .int .i64 i ∧ gk = i + 1) ∨ (s5 = .int .i64 (-1) ∧ gk = 0)))
  case atStart =>
    refine ⟨rfl, Lib.hid (fun j h1 h2 => by omega), Nat.le_refl _, ?_⟩
    cases n with
    | zero => exact .inr ⟨rfl, rfl⟩
    | succ n => exact .inl ⟨n, by simp, rfl⟩
  case round =>
    obtain ⟨rfl, H9, hgn, ⟨i, rfl, rfl⟩ | ⟨rfl, rfl⟩⟩ := hrel
    · have hil : i < ds.length := by omega
      have hj0 : (i : Int) < (ds.length : Int) := by omega
      have hcx := HC.out i hil
      have hgi : ds.getD i 0 = ds[i] := by rw [List.getD_eq_getElem?_getD, List.getElem?_eq_getElem hil]; rfl
      have HGI := Lib.hid hgi
      clear hgi
      by_cases h9 : ds[i] < 9
      · have h9' : (ds[i] : Int) < 9 := by omega
        have HX9 := Lib.hid h9
        have hj1 : (i : Int) + 1 ≤ (c : Int) := by omega
        have hbl' : b < w.heap.size := H.out.lt
        have kb0 : ¬ b = w.heap.size := by omega
        have kb1 : ¬ b = w.heap.size + 1 := by omega
        have kb2 : ¬ w.heap.size = b := by omega
        have kb3 : ¬ w.heap.size + 1 = b := by omega
        have hnt : Hid (i + 1 = (ds.take (i + 1)).length) := Lib.hid (by simp; omega)
        have hnl : (ds.take (i + 1)).length ≤ 100000 := by simp; omega
        go_wp2_with fail
        have hj3 : (0 : Int) ≤ (i : Int) + 1 := by omega
        have hj4 : ((i : Int) + 1).toNat = i + 1 := by omega
        have hj2 : IntKind.i64.wrap ((i : Int) + 1) = (i : Int) + 1 := IntWalk.i64_in _ (by omega)
        go_region_held3 (fun W : World => W.cell? ⟨b, 0, none⟩ = some (.slice (some ⟨g, 0, none⟩) ds.length c) ∧ W.cell? ⟨b, 1, none⟩ = some (.int .i64 dp)) (go_keep) ((refine step_app0 (by rfl) _ _ (by rfl) _ g (i + 1) c (ds.take (i + 1)) (by rfl) (by rfl) (by simp only [hp_drew, hp_alloc, Array.getElem?_push, Array.size_push]; simp) hnt.out (take_cells (i + 1) HC.out (by repeat (first | exact Below.refl _ _ | refine Below.drew ?_ | refine Below.alloc ?_ (by simp <;> omega) _))) hnl ?_; intro a' c' w' ho hg; have HR := Lib.hid ho; have HO := Lib.hid (World.ownsRowF_of ho); have hB := (show Below w.heap.size w _ from by repeat (first | exact Below.refl _ _ | refine Below.drew ?_ | refine Below.alloc ?_ (by simp <;> omega) _)).grown hg (by simp <;> omega) (fun k hk => by simp at hk; omega); have e0 := (cell_of_below (j := 0) hB hbl').trans c0; have e1 := (cell_of_below (j := 1) hB hbl').trans c1; have HB := Lib.hid hB; (first | (refine far_bind (x := .slice none 0 0) (y := .int .i64 0) (D := w.heap.size) hg ?_ ?_ ?_; (focus (first | exact heap2_0 _ _ _ | exact heap2_1 _ _ _)); (focus (first | exact heap2_0 _ _ _ | exact heap2_1 _ _ _)); intro hD d0 d1 d2 d3; have HD := Lib.hid hD; clear hD) | (refine far_bind (x := .slice none 0 0) (y := .int .i64 0) (D := w.heap.size + 1) hg ?_ ?_ ?_; (focus (first | exact heap2_0 _ _ _ | exact heap2_1 _ _ _)); (focus (first | exact heap2_0 _ _ _ | exact heap2_1 _ _ _)); intro hD d0 d1 d2 d3; have HD := Lib.hid hD; clear hD) | skip); clear ho hg hB))
        all_goals (
          clear hj2 hj3 hj4 k0 k1 kb0 kb1 kb2 kb3 e0 e1 hcx c0 c1
          refine world_named (UpMid w _ a' c' (ds.take (i + 1)) (dp : Int)) (by first | exact mid_new HR.out hnt.out (by omega) (by omega) HB.out | exact (mid_new HR.out hnt.out (by omega) (by omega) HB.out).drew | exact mid_build HD.out HR.out hnt.out (by omega) (by omega) HB.out (by omega) | exact (mid_build HD.out HR.out hnt.out (by omega) (by omega) HB.out (by omega)).drew) ?_
          rintro W1 ⟨g', rfl, hgw, hF, hB1⟩
          rw [take_snoc hil] at hF
          obtain ⟨m0, m1, m2⟩ := hF.open (show (ds.take i).length = i by rw [List.length_take]; omega)
          have h9x : ds.getD i 0 < 9 := by rw [HGI.out]; exact HX9.out
          have HF := Lib.hid (up_fin hF hB1 hgw HDG.out hn hnd (by omega) h9x H9.out)
          clear hF hB1 hgw hnt hnl HR HO HB
          clear h9 h9'
          generalize ds.getD i 0 = x at *
          go_wp2_with fail
          go_ret
          exact HF.out _ (by omega))
      · have hd9 : ds[i] = 9 := by have := HDG.out _ (List.getElem_mem hil); omega
        have HN : Hid (∀ j, i ≤ j → j < n → ds.getD j 0 = 9) := Lib.hid (fun j h1 h2 => by
          by_cases hji : j = i
          · subst hji; rw [HGI.out]; exact hd9
          · exact H9.out j (by omega) h2)
        rw [hd9] at hcx
        clear hd9 h9
        go_wp2_with fail
        go_roundg i
        case measure => omega
        case rel =>
          refine ⟨rfl, HN, by omega, ?_⟩
          cases i with
          | zero => exact .inr ⟨rfl, rfl⟩
          | succ i => exact .inl ⟨i, by simp, rfl⟩
    · have HN : Hid (∀ j, j < n → ds.getD j 0 = 9) := Lib.hid (fun j h => H9.out j (Nat.zero_le _) h)
      have hlt := H.out.lt
      have c1a : ∀ o, (w.alloc o).cell? ⟨b, 1, none⟩ = some (.int .i64 dp) := fun o => (((Below.refl _ w).alloc (Nat.le_refl _) o).cell (p := ⟨b, 1, none⟩) hlt).trans c1
      go_wp2_with fail
      go_ret
      exact all_fin hnd HN.out (by omega)
end Go.Proofs.YtjpcdbopioblaaaGreatDoor

/- 'short' of a decimal walked: of a half below 2^52 all digits are kept. -/
namespace Go.Proofs.YtjpcdbopioblaaaGreatDoor
open Go.RowKit

theorem DVal.cross {ds : List Nat} {dp n d n' d' : Nat} (h : DVal ds dp n d) (e : n * d' = n' * d) (hd : 0 < d) : DVal ds dp n' d' := by
  obtain ⟨j, hl, he⟩ := h
  refine ⟨j, hl, ?_⟩
  refine Nat.eq_of_mul_eq_mul_right hd ?_
  calc numP ds (dp + j) * d' * d = numP ds (dp + j) * d * d' := Nat.mul_right_comm _ _ _
    _ = n * 10 ^ j * d' := by rw [he]
    _ = n * d' * 10 ^ j := Nat.mul_right_comm _ _ _
    _ = n' * d * 10 ^ j := by rw [e]
    _ = n' * 10 ^ j * d := Nat.mul_right_comm _ _ _
/-- A decimal of the call's own that is above 0. -/
structure Pos (W : World) (b : Nat) (ds : List Nat) (dp num den : Nat) : Prop where
  dec : DecAt W b ds dp
  digs : Digs ds
  ne : ds ≠ []
  first : ds.getD 0 0 ≠ 0
  len : ds.length ≤ 200
  dple : dp ≤ 100
  val : DVal ds dp num den
theorem Pos.kept {W W' : World} {b : Nat} {ds : List Nat} {dp num den : Nat} (h : Pos W b ds dp num den) (hb : Below W.heap.size W W') : Pos W' b ds dp num den := ⟨h.dec.kept hb, h.digs, h.ne, h.first, h.len, h.dple, h.val⟩
/-- What shifting a new decimal down gives. -/
theorem shift_new {v k b : Nat} {out : List Nat} {dp : Nat} {w : World} (hn : NewD v out dp) (h : DecAt w b out dp) (hk0 : 0 < k) (hk : k ≤ 55) (hbig : 2 ^ k ≤ 10 * v) :
    Calls Tryz.prog 201 #[.pointer (some ⟨b, 0, none⟩), .int .i64 (-(k : Int))] w fun e w' => e = .returned (.tuple #[]) ∧ w.grownBy w' (some b) ∧ ∃ ds dp', Pos w' b ds dp' v (2 ^ k) ∧ ds.getD (ds.length - 1) 0 ≠ 0 :=
  (shift_half b out dp k w h hn.digs hn.pos (by rw [hn.next]; exact hbig) hk0 (by omega) (by have := hn.len; have := hn.most; omega) (by have := hn.most; omega)).mono fun e w' ⟨o2, dp', he, h1, h2, h3, h4, h5, h6, h7, h8, h9⟩ =>
    ⟨he, h2, o2, dp', ⟨h1, h3, h4, h5, by have := hn.len; have := hn.most; omega, by have := hn.most; omega, by have := h9 v 1 hn.val; rwa [Nat.one_mul] at this⟩, h6⟩
def FormAt (W : World) (f : Nat) : Prop := W.heap[f]? = some (.cells #[.int .i64 52, .int .i64 11, .int .i64 (-1023)] 233 (0, 0))
theorem FormAt.cells {W : World} {f : Nat} (h : FormAt W f) : W.cell? ⟨f, 0, none⟩ = some (.int .i64 52) ∧ W.cell? ⟨f, 1, none⟩ = some (.int .i64 11) ∧ W.cell? ⟨f, 2, none⟩ = some (.int .i64 (-1023)) := by
  unfold FormAt at h
  simp [World.cell?, h]
theorem FormAt.kept {W W' : World} {f : Nat} (h : FormAt W f) {row : Option Nat} (hg : W.grownBy W' row) (hne : some f ≠ row) : FormAt W' f := (hg.block f (lt_of_block' h) hne).trans h
theorem FormAt.below {W W' : World} {f : Nat} (h : FormAt W f) (hg : Below W.heap.size W W') : FormAt W' f := (hg.block f (lt_of_block' h)).trans h
def eq52 (s : Nat) : Bool := (s : Int) == 4503599627370496
theorem cur_first {ds cur : List Nat} {n r : Nat} (h : ds.take n = cur ++ List.replicate r 0) (h0 : ds.getD 0 0 ≠ 0) (hne : cur ≠ []) : cur.getD 0 0 ≠ 0 := by
  cases cur with
  | nil => exact absurd rfl hne
  | cons a l =>
    have hn : 0 < n := by
      refine Nat.pos_of_ne_zero fun e => ?_
      subst e
      simp at h
    have e : (ds.take n).getD 0 0 = a := by rw [h]; rfl
    rw [getD_take hn] at e
    show a ≠ 0
    rw [← e]
    exact h0
/-- The low edge is above what is cut. -/
theorem cmp_low {ds cur low : List Nat} {dp m n r dpl num den : Nat} {w : World} {e : Ending} {w' : World} (hd : Digs ds) (hlast : ds.getD (ds.length - 1) 0 ≠ 0) (hv : DVal ds dp m 2) (hn : n < ds.length) (hcur : ds.take n = cur ++ List.replicate r 0)
    (hlow : DVal low dpl num den) (hne : low ≠ []) (hq : (m - 1) * den < 2 * num) (h : DCmpPost low cur dpl (if cur = [] then 0 else (dp : Int)) w e w') : ∃ c : Int, e = .returned (.int .i64 c) ∧ Below w.heap.size w w' ∧ 1 ≤ c ∧ c ≤ 1000000 := by
  obtain ⟨c, he, hb, h1, h2, h3⟩ := h
  refine ⟨c, he, hb, ?_, h2⟩
  rcases h3 with h3 | h3 | h3
  · omega
  · exact absurd h3 hne
  · exfalso
    refine not_down hd hlast hv hn (D := cur) (by have := congrArg List.length hcur; simp at this; omega) (numP_cut (by omega) hcur) hlow hq ?_
    by_cases hc : cur = []
    · subst hc; rw [if_pos rfl] at h3; exact leD_nil h3
    · rw [if_neg hc] at h3; exact h3
theorem cmp_high {ds U high : List Nat} {dp m n dpu dph num den : Nat} {w : World} {e : Ending} {w' : World} (hd : Digs ds) (hlast : ds.getD (ds.length - 1) 0 ≠ 0) (hv : DVal ds dp m 2) (hn : n < ds.length) (hU : DVal U dpu ((numP ds n + 1) * 10 ^ (dp - n)) 1) (hne : U ≠ [])
    (hhigh : DVal high dph num den) (hq : 2 * num < (m + 1) * den) (h : DCmpPost U high dpu dph w e w') : ∃ c : Int, e = .returned (.int .i64 c) ∧ Below w.heap.size w w' ∧ 1 ≤ c ∧ c ≤ 1000000 := by
  obtain ⟨c, he, hb, h1, h2, h3⟩ := h
  refine ⟨c, he, hb, ?_, h2⟩
  rcases h3 with h3 | h3 | h3
  · omega
  · exact absurd h3 hne
  · exact absurd h3 (not_up hd hlast hv hn hU hhigh hq)

set_option maxRecDepth 100000 in
set_option maxHeartbeats 3200000 in
theorem short_any (b : Nat) (ds : List Nat) (dp m s K : Nat) (w : World) (h : DecAt w b ds dp) (hd : Digs ds) (h0 : ds.getD 0 0 ≠ 0) (hlast : ds.getD (ds.length - 1) 0 ≠ 0) (hv : DVal ds dp m 2) (hl : ds.length ≤ 200) (hdp : dp ≤ 100)
    (hs : 4 * s = m * 2 ^ K) (hK : 2 ≤ K ∧ K ≤ 54) (hs1 : 4503599627370496 ≤ s) (hs2 : s < 9007199254740992) :
    Calls Tryz.prog 202 #[.pointer (some ⟨b, 0, none⟩), .int .u64 s, .int .i64 (53 - (K : Int)), .agg #[.int .i64 52, .int .i64 11, .int .i64 (-1023)]] w fun e w' => e = .returned (.pointer (some ⟨b, 0, none⟩)) ∧ Below w.heap.size w w' := by
  have H := Lib.hid h
  have HD := Lib.hid (And.intro hd (And.intro h0 (And.intro hlast hv)))
  have HS := Lib.hid hs
  have HB0 : Hid (∀ o, Below w.heap.size w (w.alloc o)) := Lib.hid fun o => (Below.refl _ w).alloc (Nat.le_refl _) o
  clear h hd h0 hlast hv hs
  have hs0 : ((s : Int) == 0) = false := beq_eq_false_iff_ne.2 (by omega)
  have hsi : (s : Int) < 9007199254740992 := by omega
  have hsj : (4503599627370496 : Int) ≤ (s : Int) := by omega
  have hpK : (2 : Nat) ^ K ≤ 2 ^ 54 := Nat.pow_le_pow_right (by decide) hK.2
  have hpK4 : (2 : Nat) ^ 2 ≤ 2 ^ K := Nat.pow_le_pow_right (by decide) hK.1
  have hpK1 : (2 : Nat) ^ (K + 1) = 2 * 2 ^ K := by rw [Nat.pow_succ, Nat.mul_comm]
  have HPK := Lib.hid (And.intro hpK (And.intro hpK4 hpK1))
  have HQH : Hid (2 * (2 * s + 1) < (m + 1) * 2 ^ K) := Lib.hid (by rw [Nat.add_mul, ← HS.out]; omega)
  have HQL : Hid ((m - 1) * 2 ^ K < 2 * (2 * s - 1)) := Lib.hid (by rw [Nat.sub_mul, ← HS.out]; omega)
  have HQL2 : Hid ((m - 1) * 2 ^ (K + 1) < 2 * (4 * s - 1)) := Lib.hid (by rw [hpK1, Nat.mul_left_comm, Nat.sub_mul, ← HS.out]; omega)
  clear hpK hpK4 hpK1
  have HN1 : Hid (∀ wx, Calls Tryz.prog 200 #[.int .u64 (2 * (s : Int) + 1)] wx (NewPost (2 * s + 1) wx)) := Lib.hid fun wx => by have := newDecimal_any (2 * s + 1) wx (by omega); rwa [show ((2 * s + 1 : Nat) : Int) = 2 * (s : Int) + 1 by omega] at this
  have HN2 : Hid (∀ wx, Calls Tryz.prog 200 #[.int .u64 (2 * (s : Int) - 1)] wx (NewPost (2 * s - 1) wx)) := Lib.hid fun wx => by have := newDecimal_any (2 * s - 1) wx (by omega); rwa [show ((2 * s - 1 : Nat) : Int) = 2 * (s : Int) - 1 by omega] at this
  have HN4 : Hid (∀ wx, Calls Tryz.prog 200 #[.int .u64 (4 * (s : Int) - 1)] wx (NewPost (4 * s - 1) wx)) := Lib.hid fun wx => by have := newDecimal_any (4 * s - 1) wx (by omega); rwa [show ((4 * s - 1 : Nat) : Int) = 4 * (s : Int) - 1 by omega] at this
  have HSH : Hid (∀ (v b : Nat) (out : List Nat) (dp : Nat) (wx : World), NewD v out dp → DecAt wx b out dp → 2 ^ K ≤ 10 * v → Calls Tryz.prog 201 #[.pointer (some ⟨b, 0, none⟩), .int .i64 (53 - (K : Int) - 52 - 1)] wx fun e w' => e = .returned (.tuple #[]) ∧ wx.grownBy w' (some b) ∧ ∃ ds dp', Pos w' b ds dp' v (2 ^ K) ∧ ds.getD (ds.length - 1) 0 ≠ 0) := Lib.hid fun v b out dp wx h1 h2 h3 => by
    have := shift_new h1 h2 (k := K) (by omega) (by omega) h3
    rwa [show -(K : Int) = 53 - (K : Int) - 52 - 1 by omega] at this
  have HSH2 : Hid (∀ (v b : Nat) (out : List Nat) (dp : Nat) (wx : World), NewD v out dp → DecAt wx b out dp → 2 ^ (K + 1) ≤ 10 * v → Calls Tryz.prog 201 #[.pointer (some ⟨b, 0, none⟩), .int .i64 (53 - (K : Int) - 52 - 2)] wx fun e w' => e = .returned (.tuple #[]) ∧ wx.grownBy w' (some b) ∧ ∃ ds dp', Pos w' b ds dp' v (2 ^ (K + 1)) ∧ ds.getD (ds.length - 1) 0 ≠ 0) := Lib.hid fun v b out dp wx h1 h2 h3 => by
    have := shift_new h1 h2 (k := K + 1) (by omega) (by omega) h3
    rwa [show -((K + 1 : Nat) : Int) = 53 - (K : Int) - 52 - 2 by omega] at this
  have hcase : (s = 4503599627370496 ∧ ((s : Int) == 4503599627370496) = eq52 s ∧ eq52 s = true ∧ ((s : Int) % 2 == 0) = true) ∨ (((s : Int) == 4503599627370496) = false ∧ ((s : Int) % 2 == 0) = true) ∨ (((s : Int) == 4503599627370496) = false ∧ ((s : Int) % 2 == 0) = false) := by
    by_cases h1 : s = 4503599627370496
    · exact .inl ⟨h1, rfl, beq_iff_eq.2 (by omega), beq_iff_eq.2 (by omega)⟩
    · have h2 : ((s : Int) == 4503599627370496) = false := beq_eq_false_iff_ne.2 (by omega)
      cases h3 : ((s : Int) % 2 == 0)
      · exact .inr (.inr ⟨h2, rfl⟩)
      · exact .inr (.inl ⟨h2, rfl⟩)
  have HC := Lib.hid hcase
  clear hcase
  go_enter Tryz.func202, Tryz.ntmps202
  go_wp2_with fail
  refine (HN1.out _).mono ?_
  rintro e w2 ⟨o1, p1, D1, rfl, hD1, hdec1, hb1, -, hN1⟩
  have HF2 : Hid (FormAt w2 w.heap.size) := Lib.hid ((hb1.block _ (by simp)).trans (heap_alloc_new w _))
  have HB2 : Hid (Below w.heap.size w w2) := Lib.hid ((HB0.out _).trans (hb1.mono (by simp)))
  have HQ1 := Lib.hid (And.intro hdec1 (hN1 (by omega)))
  have HD1 : Hid (w.heap.size < D1) := Lib.hid (Nat.lt_of_lt_of_le (by simp) hD1)
  clear hdec1 hb1 hN1 hD1
  obtain ⟨f0, f1, f2⟩ := HF2.out.cells
  go_wp2_with fail
  refine (HSH.out _ _ _ _ _ HQ1.out.2 HQ1.out.1 (by have := HPK.out; omega)).mono ?_
  rintro e w3 ⟨rfl, hg3, H1, hdp1, hP1, -⟩
  have HP1 := Lib.hid hP1
  have HF3 : Hid (FormAt w3 w.heap.size) := Lib.hid (HF2.out.kept hg3 (by have := HD1.out; simp; omega))
  have HB3 : Hid (Below w.heap.size w w3) := Lib.hid (below_gb HB2.out hg3 HB2.out.size (Nat.le_of_lt HD1.out))
  clear hg3 hP1 HF2 HB2 f0 f1 f2 HQ1
  go_wp2_with fail
  refine (HN2.out _).mono ?_
  rintro e w4 ⟨o2, p2, D2, rfl, hD2, hdec2, hb2, -, hN2⟩
  have HF4 : Hid (FormAt w4 w.heap.size) := Lib.hid (HF3.out.below hb2)
  have HB4 : Hid (Below w3.heap.size w3 w4) := Lib.hid hb2
  have HQ2 := Lib.hid (And.intro hdec2 (hN2 (by omega)))
  have HD2 : Hid (w3.heap.size ≤ D2) := Lib.hid hD2
  clear hdec2 hb2 hN2 hD2
  obtain ⟨f0, f1, f2⟩ := HF4.out.cells
  go_wp2_with fail
  refine (HSH.out _ _ _ _ _ HQ2.out.2 HQ2.out.1 (by have := HPK.out; omega)).mono ?_
  rintro e w5 ⟨rfl, hg5, L2, dp2, hP2, -⟩
  have HP2 := Lib.hid hP2
  have HF5 : Hid (FormAt w5 w.heap.size) := Lib.hid (HF4.out.kept hg5 (by have := HD2.out; have := lt_of_block' HF3.out; simp; omega))
  have HB5 : Hid (Below w3.heap.size w3 w5) := Lib.hid (below_gb HB4.out hg5 HB4.out.size HD2.out)
  clear hg5 hP2 HF4 HB4 f0 f1 f2 HQ2
  have HB6 : Hid (Below w.heap.size w w5) := Lib.hid (HB3.out.trans (HB5.out.mono HB3.out.size))
  have HP6 : Hid (Pos w5 D1 H1 hdp1 (2 * s + 1) (2 ^ K)) := Lib.hid (HP1.out.kept HB5.out)
  clear HP1 HB5 HB3 HD2 HF3
  obtain ⟨f0, f1, f2⟩ := HF5.out.cells
  rcases HC.out with ⟨-, he1, he3, he2⟩ | ⟨he1, he2⟩ | ⟨he1, he2⟩
  · have hk5 : (-1022 : Int) < 53 - (K : Int) := by omega
    have hk6 : (K : Int) < 1075 := by omega
    go_wp2_with fail
    refine (HN4.out _).mono ?_
    rintro e w6 ⟨o3, p3, D3, rfl, hD3, hdec3, hb3, -, hN3⟩
    have HF6 : Hid (FormAt w6 w.heap.size) := Lib.hid (HF5.out.below hb3)
    have HQ3 := Lib.hid (And.intro hdec3 (And.intro hb3 (And.intro hD3 (hN3 (by omega)))))
    clear hdec3 hb3 hN3 hD3 f0 f1 f2
    obtain ⟨f0, f1, f2⟩ := HF6.out.cells
    go_wp2_with fail
    refine (HSH2.out _ _ _ _ _ HQ3.out.2.2.2 HQ3.out.1 (by have := HPK.out; omega)).mono ?_
    rintro e w7 ⟨rfl, hg7, L3, dp3, hP3, -⟩
    have HP3 := Lib.hid hP3
    have HB7 : Hid (Below w5.heap.size w5 w7) := Lib.hid (below_gb HQ3.out.2.1 hg7 HQ3.out.2.1.size HQ3.out.2.2.1)
    clear hg7 hP3 HF6 f0 f1 f2 HQ3
    have HB8 : Hid (Below w.heap.size w w7) := Lib.hid (HB6.out.trans (HB7.out.mono HB6.out.size))
    have HP8 : Hid (Pos w7 D1 H1 hdp1 (2 * s + 1) (2 ^ K)) := Lib.hid (HP6.out.kept HB7.out)
    clear HB6 HP6 HB7 HP2 hk5 hk6 he3
    have f0 := trivial
    have f1 := trivial
    have f2 := trivial
    have HPL := Lib.hid HP3.out
    go_wp2_with fail
    clear HN1 HN2 HN4 HSH HSH2 HC he1 he2 hs0 hsi hsj
    go_loopg [12] (ds.length) (fun gk s12 wr => ∃ n : Nat, s12 = .int .i64 n ∧ n ≤ ds.length ∧ gk = ds.length - n ∧ Hid (Below w.heap.size w wr) ∧ Hid (Pos wr D1 H1 hdp1 (2 * s + 1) (2 ^ K)) ∧ Hid (Pos wr D3 L3 dp3 (4 * s - 1) (2 ^ (K + 1))))
    case atStart => exact ⟨0, rfl, Nat.zero_le _, rfl, HB8, HP8, HPL⟩
    case round =>
      obtain ⟨n, rfl, hn, rfl, HBW, HPH, HPLW⟩ := hrel
      clear HB8 HP8 HPL HP3 f0 f1 f2
      have HA := Lib.hid (H.out.kept HBW.out)
      obtain ⟨a, c, c0, c1, -⟩ := HA.out.open
      by_cases hlt : n < ds.length
      · have hj : (n : Int) < (ds.length : Int) := by omega
        have hhl := half_len HD.out.2.2.2 HD.out.2.2.1 HD.out.1
        have HDN := Lib.hid (down_any b ds dp n _ HA.out hlt (by omega))
        go_wp2_with fail
        refine HDN.out.mono ?_
        rintro e w7 ⟨D7, cur, r, rfl, hcur, hdec, hb7, hlast7, -⟩
        have HCUR := Lib.hid (And.intro hcur (And.intro hdec (And.intro hb7 hlast7)))
        have HUP := Lib.hid (up_any b ds dp n w7 (HA.out.kept hb7) HD.out.1 hlt (by omega) (by omega) (by omega))
        clear hcur hdec hb7 hlast7 HDN c0 c1
        go_wp2_with fail
        refine HUP.out.mono ?_
        rintro e w8 ⟨D8, U, dpu, rfl, hU1, hU2, hU3, hU4, hU5, hU6, hU7⟩
        have HU := Lib.hid (And.intro hU1 (And.intro hU2 (And.intro hU3 (And.intro hU4 (And.intro hU5 (And.intro hU6 hU7))))))
        have HW8 : Hid (Below _ _ w8) := Lib.hid (HCUR.out.2.2.1.trans (hU2.mono HCUR.out.2.2.1.size))
        have HL8 := Lib.hid (HPLW.out.kept HW8.out)
        have HH8 := Lib.hid (HPH.out.kept HW8.out)
        have HCL := Lib.hid (cmp_any D3 D7 L3 cur dp3 (if cur = [] then 0 else (dp : Int)) w8 HL8.out.dec (HCUR.out.2.1.kept hU2) (by have := HL8.out.len; omega) (by have := congrArg List.length HCUR.out.1; simp at this; omega) (by have := HL8.out.dple; omega) (by split <;> omega) HL8.out.digs (fun d hd => HD.out.1 d (List.mem_of_mem_take (by rw [HCUR.out.1]; exact List.mem_append_left _ hd))) (cur_first HCUR.out.1 HD.out.2.1))
        clear hU1 hU2 hU3 hU4 hU5 hU6 hU7 HUP
        go_wp2_with fail
        refine HCL.out.mono ?_
        intro e w9 hc9
        obtain ⟨c9, rfl, hb9, hc1, hc2⟩ := cmp_low HD.out.1 HD.out.2.2.1 HD.out.2.2.2 hlt HCUR.out.1 HL8.out.val HL8.out.ne HQL2.out hc9
        have HB9 := Lib.hid hb9
        have HCH := Lib.hid (cmp_any D8 D1 U H1 dpu hdp1 w9 (HU.out.1.kept hb9) (HH8.out.dec.kept hb9) (by have := HU.out.2.2.2.2.1; omega) (by have := HH8.out.len; omega) (by have := HU.out.2.2.2.2.2.1; omega) (by have := HH8.out.dple; omega) HU.out.2.2.1 HH8.out.digs (fun _ => HH8.out.first))
        clear hc9 hb9 HCL
        have hc0 : ¬ c9 < 1 := by omega
        go_wp2_with fail
        refine HCH.out.mono ?_
        intro e w10 hc10
        obtain ⟨c10, rfl, hb10, hc3, hc4⟩ := cmp_high HD.out.1 HD.out.2.2.1 HD.out.2.2.2 hlt HU.out.2.2.2.2.2.2 HU.out.2.2.2.1 HH8.out.val HQH.out hc10
        have HBA : Hid (Below _ _ w10) := Lib.hid (HW8.out.trans ((HB9.out.trans (hb10.mono HB9.out.size)).mono HW8.out.size))
        clear hc10 hb10 HCH
        have hc5 : ¬ c10 < 1 := by omega
        go_wp2_with fail
        go_roundg (ds.length - (n + 1))
        case measure => omega
        case rel => exact ⟨n + 1, by go_num, by omega, rfl, Lib.hid (HBW.out.trans (HBA.out.mono HBW.out.size)), Lib.hid (HPH.out.kept HBA.out), Lib.hid (HPLW.out.kept HBA.out)⟩
      · have hj : ¬ ((n : Int) < (ds.length : Int)) := by omega
        go_wp2_with fail
        go_ret
        exact ⟨rfl, HBW.out⟩
  · skip
    have HPL := Lib.hid HP2.out
    go_wp2_with fail
    clear HN1 HN2 HN4 HSH HSH2 HC he1 he2 hs0 hsi hsj
    go_loopg [12] (ds.length) (fun gk s12 wr => ∃ n : Nat, s12 = .int .i64 n ∧ n ≤ ds.length ∧ gk = ds.length - n ∧ Hid (Below w.heap.size w wr) ∧ Hid (Pos wr D1 H1 hdp1 (2 * s + 1) (2 ^ K)) ∧ Hid (Pos wr D2 L2 dp2 (2 * s - 1) (2 ^ K)))
    case atStart => exact ⟨0, rfl, Nat.zero_le _, rfl, HB6, HP6, HPL⟩
    case round =>
      obtain ⟨n, rfl, hn, rfl, HBW, HPH, HPLW⟩ := hrel
      clear HB6 HP6 HPL HP2 f0 f1 f2
      have HA := Lib.hid (H.out.kept HBW.out)
      obtain ⟨a, c, c0, c1, -⟩ := HA.out.open
      by_cases hlt : n < ds.length
      · have hj : (n : Int) < (ds.length : Int) := by omega
        have hhl := half_len HD.out.2.2.2 HD.out.2.2.1 HD.out.1
        have HDN := Lib.hid (down_any b ds dp n _ HA.out hlt (by omega))
        go_wp2_with fail
        refine HDN.out.mono ?_
        rintro e w7 ⟨D7, cur, r, rfl, hcur, hdec, hb7, hlast7, -⟩
        have HCUR := Lib.hid (And.intro hcur (And.intro hdec (And.intro hb7 hlast7)))
        have HUP := Lib.hid (up_any b ds dp n w7 (HA.out.kept hb7) HD.out.1 hlt (by omega) (by omega) (by omega))
        clear hcur hdec hb7 hlast7 HDN c0 c1
        go_wp2_with fail
        refine HUP.out.mono ?_
        rintro e w8 ⟨D8, U, dpu, rfl, hU1, hU2, hU3, hU4, hU5, hU6, hU7⟩
        have HU := Lib.hid (And.intro hU1 (And.intro hU2 (And.intro hU3 (And.intro hU4 (And.intro hU5 (And.intro hU6 hU7))))))
        have HW8 : Hid (Below _ _ w8) := Lib.hid (HCUR.out.2.2.1.trans (hU2.mono HCUR.out.2.2.1.size))
        have HL8 := Lib.hid (HPLW.out.kept HW8.out)
        have HH8 := Lib.hid (HPH.out.kept HW8.out)
        have HCL := Lib.hid (cmp_any D2 D7 L2 cur dp2 (if cur = [] then 0 else (dp : Int)) w8 HL8.out.dec (HCUR.out.2.1.kept hU2) (by have := HL8.out.len; omega) (by have := congrArg List.length HCUR.out.1; simp at this; omega) (by have := HL8.out.dple; omega) (by split <;> omega) HL8.out.digs (fun d hd => HD.out.1 d (List.mem_of_mem_take (by rw [HCUR.out.1]; exact List.mem_append_left _ hd))) (cur_first HCUR.out.1 HD.out.2.1))
        clear hU1 hU2 hU3 hU4 hU5 hU6 hU7 HUP
        go_wp2_with fail
        refine HCL.out.mono ?_
        intro e w9 hc9
        obtain ⟨c9, rfl, hb9, hc1, hc2⟩ := cmp_low HD.out.1 HD.out.2.2.1 HD.out.2.2.2 hlt HCUR.out.1 HL8.out.val HL8.out.ne HQL.out hc9
        have HB9 := Lib.hid hb9
        have HCH := Lib.hid (cmp_any D8 D1 U H1 dpu hdp1 w9 (HU.out.1.kept hb9) (HH8.out.dec.kept hb9) (by have := HU.out.2.2.2.2.1; omega) (by have := HH8.out.len; omega) (by have := HU.out.2.2.2.2.2.1; omega) (by have := HH8.out.dple; omega) HU.out.2.2.1 HH8.out.digs (fun _ => HH8.out.first))
        clear hc9 hb9 HCL
        have hc0 : ¬ c9 < 1 := by omega
        go_wp2_with fail
        refine HCH.out.mono ?_
        intro e w10 hc10
        obtain ⟨c10, rfl, hb10, hc3, hc4⟩ := cmp_high HD.out.1 HD.out.2.2.1 HD.out.2.2.2 hlt HU.out.2.2.2.2.2.2 HU.out.2.2.2.1 HH8.out.val HQH.out hc10
        have HBA : Hid (Below _ _ w10) := Lib.hid (HW8.out.trans ((HB9.out.trans (hb10.mono HB9.out.size)).mono HW8.out.size))
        clear hc10 hb10 HCH
        have hc5 : ¬ c10 < 1 := by omega
        go_wp2_with fail
        go_roundg (ds.length - (n + 1))
        case measure => omega
        case rel => exact ⟨n + 1, by go_num, by omega, rfl, Lib.hid (HBW.out.trans (HBA.out.mono HBW.out.size)), Lib.hid (HPH.out.kept HBA.out), Lib.hid (HPLW.out.kept HBA.out)⟩
      · have hj : ¬ ((n : Int) < (ds.length : Int)) := by omega
        go_wp2_with fail
        go_ret
        exact ⟨rfl, HBW.out⟩
  · skip
    have HPL := Lib.hid HP2.out
    go_wp2_with fail
    clear HN1 HN2 HN4 HSH HSH2 HC he1 he2 hs0 hsi hsj
    go_loopg [12] (ds.length) (fun gk s12 wr => ∃ n : Nat, s12 = .int .i64 n ∧ n ≤ ds.length ∧ gk = ds.length - n ∧ Hid (Below w.heap.size w wr) ∧ Hid (Pos wr D1 H1 hdp1 (2 * s + 1) (2 ^ K)) ∧ Hid (Pos wr D2 L2 dp2 (2 * s - 1) (2 ^ K)))
    case atStart => exact ⟨0, rfl, Nat.zero_le _, rfl, HB6, HP6, HPL⟩
    case round =>
      obtain ⟨n, rfl, hn, rfl, HBW, HPH, HPLW⟩ := hrel
      clear HB6 HP6 HPL HP2 f0 f1 f2
      have HA := Lib.hid (H.out.kept HBW.out)
      obtain ⟨a, c, c0, c1, -⟩ := HA.out.open
      by_cases hlt : n < ds.length
      · have hj : (n : Int) < (ds.length : Int) := by omega
        have hhl := half_len HD.out.2.2.2 HD.out.2.2.1 HD.out.1
        have HDN := Lib.hid (down_any b ds dp n _ HA.out hlt (by omega))
        go_wp2_with fail
        refine HDN.out.mono ?_
        rintro e w7 ⟨D7, cur, r, rfl, hcur, hdec, hb7, hlast7, -⟩
        have HCUR := Lib.hid (And.intro hcur (And.intro hdec (And.intro hb7 hlast7)))
        have HUP := Lib.hid (up_any b ds dp n w7 (HA.out.kept hb7) HD.out.1 hlt (by omega) (by omega) (by omega))
        clear hcur hdec hb7 hlast7 HDN c0 c1
        go_wp2_with fail
        refine HUP.out.mono ?_
        rintro e w8 ⟨D8, U, dpu, rfl, hU1, hU2, hU3, hU4, hU5, hU6, hU7⟩
        have HU := Lib.hid (And.intro hU1 (And.intro hU2 (And.intro hU3 (And.intro hU4 (And.intro hU5 (And.intro hU6 hU7))))))
        have HW8 : Hid (Below _ _ w8) := Lib.hid (HCUR.out.2.2.1.trans (hU2.mono HCUR.out.2.2.1.size))
        have HL8 := Lib.hid (HPLW.out.kept HW8.out)
        have HH8 := Lib.hid (HPH.out.kept HW8.out)
        have HCL := Lib.hid (cmp_any D2 D7 L2 cur dp2 (if cur = [] then 0 else (dp : Int)) w8 HL8.out.dec (HCUR.out.2.1.kept hU2) (by have := HL8.out.len; omega) (by have := congrArg List.length HCUR.out.1; simp at this; omega) (by have := HL8.out.dple; omega) (by split <;> omega) HL8.out.digs (fun d hd => HD.out.1 d (List.mem_of_mem_take (by rw [HCUR.out.1]; exact List.mem_append_left _ hd))) (cur_first HCUR.out.1 HD.out.2.1))
        clear hU1 hU2 hU3 hU4 hU5 hU6 hU7 HUP
        go_wp2_with fail
        refine HCL.out.mono ?_
        intro e w9 hc9
        obtain ⟨c9, rfl, hb9, hc1, hc2⟩ := cmp_low HD.out.1 HD.out.2.2.1 HD.out.2.2.2 hlt HCUR.out.1 HL8.out.val HL8.out.ne HQL.out hc9
        have HB9 := Lib.hid hb9
        have HCH := Lib.hid (cmp_any D8 D1 U H1 dpu hdp1 w9 (HU.out.1.kept hb9) (HH8.out.dec.kept hb9) (by have := HU.out.2.2.2.2.1; omega) (by have := HH8.out.len; omega) (by have := HU.out.2.2.2.2.2.1; omega) (by have := HH8.out.dple; omega) HU.out.2.2.1 HH8.out.digs (fun _ => HH8.out.first))
        clear hc9 hb9 HCL
        have hc0 : ¬ c9 < 0 := by omega
        go_wp2_with fail
        refine HCH.out.mono ?_
        intro e w10 hc10
        obtain ⟨c10, rfl, hb10, hc3, hc4⟩ := cmp_high HD.out.1 HD.out.2.2.1 HD.out.2.2.2 hlt HU.out.2.2.2.2.2.2 HU.out.2.2.2.1 HH8.out.val HQH.out hc10
        have HBA : Hid (Below _ _ w10) := Lib.hid (HW8.out.trans ((HB9.out.trans (hb10.mono HB9.out.size)).mono HW8.out.size))
        clear hc10 hb10 HCH
        have hc5 : ¬ c10 < 0 := by omega
        go_wp2_with fail
        go_roundg (ds.length - (n + 1))
        case measure => omega
        case rel => exact ⟨n + 1, by go_num, by omega, rfl, Lib.hid (HBW.out.trans (HBA.out.mono HBW.out.size)), Lib.hid (HPH.out.kept HBA.out), Lib.hid (HPLW.out.kept HBA.out)⟩
      · have hj : ¬ ((n : Int) < (ds.length : Int)) := by omega
        go_wp2_with fail
        go_ret
        exact ⟨rfl, HBW.out⟩
end Go.Proofs.YtjpcdbopioblaaaGreatDoor

/- Doubles that hold a whole number of halves: what is written and read back. No program in sight. -/
namespace Go.Proofs.YtjpcdbopioblaaaGreatDoor
open Ieee

theorem log2_mul_pow (m d : Nat) (hm : 0 < m) : (m * 2 ^ d).log2 = m.log2 + d := by
  have h1 := Nat.log2_self_le (n := m) (by omega)
  have h2 := Nat.lt_log2_self (n := m)
  have hp : 0 < 2 ^ d := Nat.two_pow_pos d
  refine (Nat.log2_eq_iff (by have := Nat.mul_pos hm hp; omega)).2 ⟨?_, ?_⟩
  · rw [Nat.pow_add]; exact Nat.mul_le_mul_right _ h1
  · rw [show m.log2 + d + 1 = m.log2 + 1 + d by omega, Nat.pow_add]; exact Nat.mul_lt_mul_of_pos_right h2 hp

/-- The rung's significand. -/
def sig (m : Nat) : Nat := m * 2 ^ (52 - m.log2)
theorem log2_le (m : Nat) (hm2 : m < 2 ^ 53) : m.log2 ≤ 52 := by
  rcases Nat.eq_zero_or_pos m with rfl | h
  · simp
  · have := (Nat.log2_lt (by omega)).2 hm2; omega
theorem sig_bounds (m : Nat) (hm : 0 < m) (hm2 : m < 2 ^ 53) : 2 ^ 52 ≤ sig m ∧ sig m < 2 ^ 53 := by
  have h1 := Nat.log2_self_le (n := m) (by omega)
  have h2 := Nat.lt_log2_self (n := m)
  have hl := log2_le m hm2
  unfold sig
  have hp : 0 < 2 ^ (52 - m.log2) := Nat.two_pow_pos _
  constructor
  · calc 2 ^ 52 = 2 ^ (m.log2 + (52 - m.log2)) := by congr 1; omega
      _ = 2 ^ m.log2 * 2 ^ (52 - m.log2) := Nat.pow_add _ _ _
      _ ≤ _ := Nat.mul_le_mul_right _ h1
  · calc m * 2 ^ (52 - m.log2) < 2 ^ (m.log2 + 1) * 2 ^ (52 - m.log2) := Nat.mul_lt_mul_of_pos_right h2 hp
      _ = 2 ^ (m.log2 + 1 + (52 - m.log2)) := (Nat.pow_add _ _ _).symm
      _ = 2 ^ 53 := by congr 1; omega

/-- The rung of m * 2 ^ p. -/
def rung (m : Nat) (p : Int) : Nat := (p + m.log2 + 1022).toNat * 2 ^ 52 + sig m

theorem cut_even_exact (neg : Bool) (n e : Nat) (hn : 0 < n) : Toward.even.cut neg (n * 2 ^ e) e = n := by
  have hl := log2_mul_pow n e hn
  unfold Toward.cut
  have hmin : min e ((n * 2 ^ e).log2 + 2) = e := by rw [hl]; omega
  simp only [hmin, Nat.one_shiftLeft]
  have hp : 0 < 2 ^ e := Nat.two_pow_pos e
  rw [Nat.mul_div_cancel _ hp, Nat.mul_mod_left]
  have h1 : (2 ^ e < 2 * 0) = False := by simp
  have h2 : (2 ^ e == 2 * 0) = false := by simp
  simp [h2]

theorem nearest_shift (neg : Bool) (m d : Nat) (p : Int) (hm : 0 < m) (hm2 : m < 2 ^ 53) (hp : -1022 ≤ p + m.log2) (hp2 : p + m.log2 ≤ 1023) :
    double.nearest neg (m * 2 ^ d) (p - d) = double.word neg (rung m p) := by
  have hl := log2_mul_pow m d hm
  have hl52 := log2_le m hm2
  have hpd : 0 < 2 ^ d := Nat.two_pow_pos d
  have hmd : m * 2 ^ d ≠ 0 := by have := Nat.mul_pos hm hpd; omega
  have hs := sig_bounds m hm hm2
  have least : double.leastPlace = -1074 := by decide
  have frac : double.fractionBits = 52 := rfl
  unfold Format.nearest
  rw [if_neg hmd, hl, least, frac]
  have hlast : max (p - (d : Int) + ((m.log2 + d : Nat) : Int) - ((52 : Nat) : Int)) (-1074) = p + m.log2 - 52 := by
    rw [Int.max_def]; split <;> omega
  simp only [hlast]
  have hkept : Toward.even.cut neg ((m * 2 ^ d) <<< (p - (d : Int) - (p + m.log2 - 52)).toNat) (p + m.log2 - 52 - (p - (d : Int))).toNat = sig m := by
    by_cases hd : d ≤ 52 - m.log2
    · have e1 : (p - (d : Int) - (p + m.log2 - 52)).toNat = 52 - m.log2 - d := by omega
      have e2 : (p + m.log2 - 52 - (p - (d : Int))).toNat = 0 := by omega
      rw [e1, e2, Nat.shiftLeft_eq]
      have := cut_even_exact neg (m * 2 ^ d * 2 ^ (52 - m.log2 - d)) 0 (Nat.mul_pos (Nat.mul_pos hm hpd) (Nat.two_pow_pos _))
      rw [Nat.pow_zero, Nat.mul_one] at this
      rw [this, Nat.mul_assoc, ← Nat.pow_add]
      unfold sig
      congr 2; omega
    · have e1 : (p - (d : Int) - (p + m.log2 - 52)).toNat = 0 := by omega
      have e2 : (p + m.log2 - 52 - (p - (d : Int))).toNat = d - (52 - m.log2) := by omega
      rw [e1, e2, Nat.shiftLeft_zero]
      have := cut_even_exact neg (sig m) (d - (52 - m.log2)) (by omega)
      rw [← this]
      congr 1
      unfold sig
      rw [Nat.mul_assoc, ← Nat.pow_add]
      congr 2; omega
  rw [hkept]
  have hbin : double.binade = 2 ^ 52 := rfl
  have hinf : double.infRung = 2047 * 2 ^ 52 := by decide
  rw [hbin, hinf]
  have e3 : (p + m.log2 - 52 - -1074).toNat = (p + m.log2 + 1022).toNat := by omega
  rw [e3]
  unfold rung
  congr 1
  have : (p + m.log2 + 1022).toNat ≤ 2045 := by omega
  rw [Nat.min_def]
  split
  · rfl
  · rename_i hlt
    exfalso
    have : (p + m.log2 + 1022).toNat * 2 ^ 52 ≤ 2045 * 2 ^ 52 := Nat.mul_le_mul_right _ this
    omega

theorem nearest_exact (neg : Bool) (m : Nat) (p : Int) (hm : 0 < m) (hm2 : m < 2 ^ 53) (hp : -1022 ≤ p + m.log2) (hp2 : p + m.log2 ≤ 1023) :
    double.nearest neg m p = double.word neg (rung m p) := by
  have := nearest_shift neg m 0 p hm hm2 hp hp2
  simpa using this

theorem read_word (neg : Bool) (E k : Nat) (hk : 2 ^ 52 ≤ k) (hk2 : k < 2 ^ 53) (hE : E ≤ 2045) :
    double.read (double.word neg (E * 2 ^ 52 + k)) = .number neg k ((E : Int) - 1074) := by
  have sw : double.signWeight = 2 ^ 63 := rfl
  have hr : E * 2 ^ 52 + k < 2 ^ 63 := by have : E * 2 ^ 52 ≤ 2045 * 2 ^ 52 := Nat.mul_le_mul_right _ hE; omega
  have hn : (double.word neg (E * 2 ^ 52 + k) / double.signWeight % 2 == 1) = neg := by
    rw [sw]
    unfold Format.word
    rw [sw]
    cases neg
    · simp only [Bool.false_eq_true, if_false]
      rw [Nat.div_eq_of_lt hr]; rfl
    · simp only [if_true]
      rw [Nat.add_comm, Nat.add_div_right _ (by decide), Nat.div_eq_of_lt hr]; rfl
  have hm : double.word neg (E * 2 ^ 52 + k) % double.signWeight = E * 2 ^ 52 + k := by
    unfold Format.word
    rw [sw]
    cases neg
    · simp only [Bool.false_eq_true, if_false]
      exact Nat.mod_eq_of_lt hr
    · simp only [if_true]
      rw [Nat.add_comm, Nat.add_mod_right, Nat.mod_eq_of_lt hr]
  unfold Format.read
  rw [hn, hm]
  have hbin : double.binade = 2 ^ 52 := rfl
  have hinf : double.infRung = 2047 * 2 ^ 52 := by decide
  have least : double.leastPlace = -1074 := by decide
  rw [hbin, hinf, least]
  dsimp only
  rw [if_neg (by omega), if_pos (by have : E * 2 ^ 52 ≤ 2045 * 2 ^ 52 := Nat.mul_le_mul_right _ hE; omega)]
  have p52 : (2 : Nat) ^ 52 = 4503599627370496 := by decide
  have p53 : (2 : Nat) ^ 53 = 9007199254740992 := by decide
  rw [p52] at hk ⊢
  rw [p53] at hk2
  have e1 : 4503599627370496 + (E * 4503599627370496 + k) % 4503599627370496 = k := by omega
  have e2 : (E * 4503599627370496 + k) / 4503599627370496 = E + 1 := by omega
  rw [e1, e2]
  have e3 : (-1074 : Int) + ((E + 1 - 1 : Nat) : Int) = (E : Int) - 1074 := by omega
  rw [e3]

theorem read_rung (neg : Bool) (m : Nat) (p : Int) (hm : 0 < m) (hm2 : m < 2 ^ 53) (hp : -1022 ≤ p + m.log2) (hp2 : p + m.log2 ≤ 1023) :
    double.read (double.word neg (rung m p)) = .number neg (sig m) (p + m.log2 - 52) := by
  have hs := sig_bounds m hm hm2
  unfold rung
  rw [read_word neg _ _ hs.1 hs.2 (by omega)]
  congr 1
  omega

theorem quotient_num (digits : Nat) (s t : Bool) (m n : Nat) (i j : Int) (hn : n ≠ 0) :
    (Datum.number s m i).quotient digits (.number t n j) = some (.number (s ^^ t) (2 * ((m <<< (digits + n.log2 - m.log2)) / n) + (((m <<< (digits + n.log2 - m.log2)) % n) != 0).toNat) (i - j - ((digits + n.log2 - m.log2 : Nat) : Int) - 1)) :=
  if_neg hn

/-- The bits of a whole number of halves. -/
theorem half_write (h : Int) (h0 : h ≠ 0) (h1 : -9007199254740992 < h) (h2 : h < 9007199254740992) :
    double.write (.number (decide (h < 0)) h.natAbs (-1)) = double.word (decide (h < 0)) (rung h.natAbs (-1)) := by
  have hl := log2_le h.natAbs (by omega)
  exact nearest_exact _ _ _ (by omega) (by omega) (by omega) (by omega)

theorem half_bits (h : Int) (h1 : -9007199254740992 < h) (h2 : h < 9007199254740992) :
    floatBits .quo .f64 (floatOfInt .f64 h) 4611686018427387904 = some (double.write (.number (decide (h < 0)) h.natAbs (-1))) := by
  by_cases h0 : h = 0
  · subst h0; decide +kernel
  have hl := log2_le h.natAbs (by omega)
  have e0 : floatOfInt .f64 h = double.nearest (decide (h < 0)) h.natAbs 0 := rfl
  have two : double.read 4611686018427387904 = .number false (2 ^ 52) (-51) := by decide +kernel
  rw [half_write h h0 h1 h2, e0, nearest_exact _ _ _ (by omega) (by omega) (by omega) (by omega)]
  generalize decide (h < 0) = s
  have hm : 0 < h.natAbs := by omega
  have hm2 : h.natAbs < 2 ^ 53 := by omega
  generalize h.natAbs = m at hm hm2 hl
  show double.div _ _ = _
  unfold Format.div
  rw [read_rung s m 0 hm hm2 (by omega) (by omega), two]
  have hs := sig_bounds m hm hm2
  have hls : (sig m).log2 = 52 := (Nat.log2_eq_iff (by omega)).2 hs
  have frac : double.fractionBits = 52 := rfl
  have hl2 : (2 ^ 52 : Nat).log2 = 52 := by decide +kernel
  have hq : sig m <<< (52 + 2 + 52 - 52) = sig m * 4 * 2 ^ 52 := by rw [Nat.shiftLeft_eq]; omega
  have key : (Datum.number s (sig m) (0 + (m.log2 : Int) - 52)).quotient (double.fractionBits + 2) (.number false (2 ^ 52) (-51)) = some (.number s (sig m * 8) (-1 + m.log2 - 52 - 3)) := by
    rw [quotient_num _ _ _ _ _ _ _ (by decide), hls, hl2, frac]
    rw [hq, Nat.mul_div_cancel _ (by decide), Nat.mul_mod_left]
    simp only [Bool.bne_false, bne_self_eq_false, Bool.toNat_false, Nat.add_zero, Option.some.injEq, Datum.number.injEq]
    refine ⟨by cases s <;> trivial, by omega, by omega⟩
  rw [key]
  show some (double.nearest s (sig m * 8) (-1 + m.log2 - 52 - 3)) = _
  have h8 : sig m * 8 = m * 2 ^ (52 - m.log2 + 3) := by unfold sig; rw [Nat.pow_add, Nat.mul_assoc]
  rw [h8, show (-1 + (m.log2 : Int) - 52 - 3) = -1 - ((52 - m.log2 + 3 : Nat) : Int) by omega, nearest_shift s m _ (-1) hm hm2 (by omega) (by omega)]
end Go.Proofs.YtjpcdbopioblaaaGreatDoor

/- Twice a half, cut, compared and made whole again. No program in sight. -/
namespace Go.Proofs.YtjpcdbopioblaaaGreatDoor
open Ieee

/-- What a whole number reads as. -/
theorem int_word (h : Int) (h0 : h ≠ 0) (h1 : -9007199254740992 < h) (h2 : h < 9007199254740992) : floatOfInt .f64 h = double.word (decide (h < 0)) (rung h.natAbs 0) := by
  have hl := log2_le h.natAbs (by omega)
  show double.nearest (decide (h < 0)) h.natAbs 0 = _
  exact nearest_exact _ _ _ (by omega) (by omega) (by omega) (by omega)

theorem int_read (h : Int) (h0 : h ≠ 0) (h1 : -9007199254740992 < h) (h2 : h < 9007199254740992) :
    double.read (floatOfInt .f64 h) = .number (decide (h < 0)) (sig h.natAbs) (h.natAbs.log2 - 52) := by
  have hl := log2_le h.natAbs (by omega)
  rw [int_word h h0 h1 h2, read_rung _ _ _ (by omega) (by omega) (by omega) (by omega)]
  congr 1
  omega

theorem twice_bits (h : Int) (h0 : h ≠ 0) (h1 : -9007199254740992 < h) (h2 : h < 9007199254740992) :
    floatBits .mul .f64 4611686018427387904 (double.write (.number (decide (h < 0)) h.natAbs (-1))) = some (floatOfInt .f64 h) := by
  have hl := log2_le h.natAbs (by omega)
  have two : double.read 4611686018427387904 = .number false (2 ^ 52) (-51) := by decide +kernel
  rw [half_write h h0 h1 h2, int_word h h0 h1 h2]
  generalize decide (h < 0) = s
  have hm : 0 < h.natAbs := by omega
  have hm2 : h.natAbs < 2 ^ 53 := by omega
  generalize h.natAbs = m at hm hm2 hl
  show double.mul _ _ = _
  unfold Format.mul
  rw [read_rung s m (-1) hm hm2 (by omega) (by omega), two]
  show some (double.nearest (false ^^ s) (2 ^ 52 * sig m) (-51 + (-1 + (m.log2 : Int) - 52))) = _
  have e1 : 2 ^ 52 * sig m = m * 2 ^ (104 - m.log2) := by
    unfold sig
    rw [show 104 - m.log2 = (52 - m.log2) + 52 by omega, Nat.pow_add, Nat.mul_comm (2 ^ 52), Nat.mul_assoc]
  rw [e1, show (-51 + (-1 + (m.log2 : Int) - 52)) = 0 - ((104 - m.log2 : Nat) : Int) by omega, nearest_shift _ m _ 0 hm hm2 (by omega) (by omega)]
  cases s <;> rfl

theorem cut_zero_exact (neg : Bool) (n e : Nat) (hn : 0 < n) : Toward.zero.cut neg (n * 2 ^ e) e = n := by
  have hl := log2_mul_pow n e hn
  unfold Toward.cut
  have hmin : min e ((n * 2 ^ e).log2 + 2) = e := by rw [hl]; omega
  simp only [hmin, Nat.one_shiftLeft]
  rw [Nat.mul_div_cancel _ (Nat.two_pow_pos e)]
  rfl

theorem int_integral (h : Int) (h0 : h ≠ 0) (h1 : -9007199254740992 < h) (h2 : h < 9007199254740992) :
    (double.read (floatOfInt .f64 h)).integral .zero = .number (decide (h < 0)) h.natAbs 0 := by
  have hl := log2_le h.natAbs (by omega)
  rw [int_read h h0 h1 h2]
  have hm : 0 < h.natAbs := by omega
  generalize h.natAbs = m at hm hl
  show Datum.number _ (Toward.zero.cut _ (sig m <<< ((m.log2 : Int) - 52).toNat) (-((m.log2 : Int) - 52)).toNat) 0 = _
  have e1 : ((m.log2 : Int) - 52).toNat = 0 := by omega
  have e2 : (-((m.log2 : Int) - 52)).toNat = 52 - m.log2 := by omega
  rw [e1, e2, Nat.shiftLeft_zero]
  unfold sig
  rw [cut_zero_exact _ _ _ hm]

theorem trunc_bits (h : Int) (h0 : h ≠ 0) (h1 : -9007199254740992 < h) (h2 : h < 9007199254740992) :
    double.write ((double.read (floatOfInt .f64 h)).integral .zero) = floatOfInt .f64 h := by
  rw [int_integral h h0 h1 h2]; rfl

theorem toInt_bits (h : Int) (h0 : h ≠ 0) (h1 : -9007199254740992 < h) (h2 : h < 9007199254740992) : floatToIntVal .f64 (floatOfInt .f64 h) .i64 = some h := by
  unfold floatToIntVal
  have e : (FloatKind.f64.decode (floatOfInt .f64 h)).toInt .zero = some h := by
    show (double.read (floatOfInt .f64 h)).toInt .zero = some h
    unfold Datum.toInt
    rw [int_integral h h0 h1 h2]
    show some (signed _ h.natAbs 0) = some h
    unfold signed
    rw [Nat.shiftLeft_zero]
    congr 1
    by_cases hn : h < 0
    · simp [hn]; omega
    · simp [hn]; omega
  rw [e]
  dsimp only
  rw [if_pos]
  exact ⟨by show (-9223372036854775808 : Int) ≤ h; omega, by show h ≤ (9223372036854775807 : Int); omega⟩

theorem order_same (h : Int) (h0 : h ≠ 0) (h1 : -9007199254740992 < h) (h2 : h < 9007199254740992) : double.order (floatOfInt .f64 h) (floatOfInt .f64 h) = some .eq := by
  unfold Format.order
  rw [int_read h h0 h1 h2]
  show some (compare _ _) = _
  simp

theorem cmp_gt (a b : Int) (h : b < a) : compare a b = Ordering.gt := by
  show (if a < b then Ordering.lt else if a = b then .eq else .gt) = _
  rw [if_neg (by omega), if_neg (by omega)]
theorem cmp_lt (a b : Int) (h : a < b) : compare a b = Ordering.lt := by
  show (if a < b then Ordering.lt else if a = b then .eq else .gt) = _
  rw [if_pos h]
theorem order_num (s t : Bool) (a b : Nat) (i j : Int) : (Datum.number s a i).order (.number t b j) = some (compare (signed s a (i - min i j).toNat) (signed t b (j - min i j).toNat)) := rfl

theorem order_low (h : Int) (h0 : h ≠ 0) (h1 : -9007199254740992 < h) (h2 : h < 9007199254740992) : double.order (floatOfInt .f64 h) 14109777632551763968 = some .gt := by
  have hl := log2_le h.natAbs (by omega)
  unfold Format.order
  have hc : double.read 14109777632551763968 = .number true (2 ^ 52) 10 := by decide +kernel
  have hs := sig_bounds h.natAbs (by omega) (by omega)
  rw [int_read h h0 h1 h2, hc, order_num]
  generalize sig h.natAbs = S at hs
  generalize h.natAbs.log2 = L at hl
  have hmin : min ((L : Int) - 52) 10 = L - 52 := by omega
  rw [hmin]
  have e1 : ((L : Int) - 52 - (L - 52)).toNat = 0 := by omega
  have e2 : ((10 : Int) - (L - 52)).toNat = 10 + (52 - L) := by omega
  rw [e1, e2]
  have hb : (2 : Nat) ^ 52 * 2 ^ 10 ≤ 2 ^ 52 <<< (10 + (52 - L)) := by
    rw [Nat.shiftLeft_eq]; exact Nat.mul_le_mul_left _ (Nat.pow_le_pow_right (by decide) (by omega))
  have p53 : (2 : Nat) ^ 53 = 9007199254740992 := by decide
  have p62 : (2 : Nat) ^ 52 * 2 ^ 10 = 4611686018427387904 := by decide
  rw [p62] at hb
  rw [p53] at hs
  congr 1
  refine cmp_gt _ _ ?_
  unfold signed
  generalize (2 : Nat) ^ 52 <<< (10 + (52 - L)) = B at hb
  rw [Nat.shiftLeft_zero]
  have hb2 := hs.2
  simp only [if_true]
  split <;> omega

theorem order_high (h : Int) (h0 : h ≠ 0) (h1 : -9007199254740992 < h) (h2 : h < 9007199254740992) : double.order (floatOfInt .f64 h) 4886405595696988160 = some .lt := by
  have hl := log2_le h.natAbs (by omega)
  unfold Format.order
  have hc : double.read 4886405595696988160 = .number false (2 ^ 52) 10 := by decide +kernel
  have hs := sig_bounds h.natAbs (by omega) (by omega)
  rw [int_read h h0 h1 h2, hc, order_num]
  generalize sig h.natAbs = S at hs
  generalize h.natAbs.log2 = L at hl
  have hmin : min ((L : Int) - 52) 10 = L - 52 := by omega
  rw [hmin]
  have e1 : ((L : Int) - 52 - (L - 52)).toNat = 0 := by omega
  have e2 : ((10 : Int) - (L - 52)).toNat = 10 + (52 - L) := by omega
  rw [e1, e2]
  have hb : (2 : Nat) ^ 52 * 2 ^ 10 ≤ 2 ^ 52 <<< (10 + (52 - L)) := by
    rw [Nat.shiftLeft_eq]; exact Nat.mul_le_mul_left _ (Nat.pow_le_pow_right (by decide) (by omega))
  have p53 : (2 : Nat) ^ 53 = 9007199254740992 := by decide
  have p62 : (2 : Nat) ^ 52 * 2 ^ 10 = 4611686018427387904 := by decide
  rw [p62] at hb
  rw [p53] at hs
  congr 1
  refine cmp_lt _ _ ?_
  unfold signed
  generalize (2 : Nat) ^ 52 <<< (10 + (52 - L)) = B at hb
  rw [Nat.shiftLeft_zero]
  have hb2 := hs.2
  simp only [Bool.false_eq_true, if_false]
  split <;> omega
end Go.Proofs.YtjpcdbopioblaaaGreatDoor
