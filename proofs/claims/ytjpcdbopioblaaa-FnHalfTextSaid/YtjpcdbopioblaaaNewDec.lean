/- 'newDecimal' walked. -/
import Derived.Test.YtjpcdbopioblaaaFmtUint
import Derived.Lib.ConvBytes
namespace Go.Proofs.Ytjpcdbopioblaaa
open Go.RowKit

theorem ownsF_set {W : World} {B : Nat} {e : TypeId} {sz : Nat} {v : Value} {n : Nat} {xs : List Value} (h : W.ownsRowF B e sz v n xs) {p : Addr} (hp : p.block < B) (x : Value) : (W.setCell p x).ownsRowF B e sz v n xs := by
  obtain ⟨hl, h0 | ⟨g, cap, cur, fz, rfl, hb, hg, hr⟩⟩ := h
  · exact ⟨hl, .inl h0⟩
  · exact ⟨hl, .inr ⟨g, cap, cur, fz, rfl, hb, by rw [heap_setCell_other _ _ _ _ (by omega)]; exact hg, hr⟩⟩

theorem own_shape {W : World} {B : Nat} {e : TypeId} {sz : Nat} {v : Value} {n : Nat} {xs : List Value} (h : W.ownsRowF B e sz v n xs) : ∃ a c, v = .slice a n c := by
  obtain ⟨hl, ⟨rfl, h0⟩ | ⟨g, cap, cur, fz, rfl, hb, hg, hr⟩⟩ := h
  · exact ⟨none, 0, by rw [h0]⟩
  · exact ⟨_, _, rfl⟩
/-- While the digits of a number are laid into a decimal. -/
structure ND (n : Nat) (w : World) (R B : Nat) (k : Nat) (v : Value) (wr : World) : Prop where
  dec : wr.heap[w.heap.size]? = some (.cells #[v, .int .i64 0] 62 (0, 0))
  row : wr.ownsRowF B 5 1 v k (dgCells ((dig n).take k))
  view : ∀ j (hj : j < (dig n).length), wr.cell? ⟨R, j, none⟩ = some (.int .u8 (48 + ((dig n)[j] : Nat)))
  below : Below w.heap.size w wr
  lo : w.heap.size < R
  mid : R < B
  hi : B ≤ wr.heap.size
theorem ND.own {n : Nat} {w : World} {R B k : Nat} {v : Value} {wr : World} (h : ND n w R B k v wr) : Lib.OwnBuf B 5 v k (dgCells ((dig n).take k)) wr wr := ⟨h.row, Below.refl _ _, h.hi⟩
theorem cell_of_below {B : Nat} {w w' : World} (h : Below B w w') {g j : Nat} (hg : g < B) : w'.cell? ⟨g, j, none⟩ = w.cell? ⟨g, j, none⟩ := by
  simp only [World.cell?]
  rw [h.block g hg]
theorem ND.push {n : Nat} {w : World} {R B k : Nat} {v v' : Value} {wr w3 : World} (h : ND n w R B k v wr) (hk : k < (dig n).length) {x : Int} (hx : x = ((dig n)[k] : Nat)) (ho : Lib.OwnBuf B 5 v' (k + 1) (dgCells ((dig n).take k) ++ [.int .u8 x]) wr w3) :
    ND n w R B (k + 1) v' (w3.setCell ⟨w.heap.size, 0, none⟩ v') := by
  obtain ⟨hr, hb, hs⟩ := ho
  have h1 := h.lo
  have h2 := h.mid
  have hd : w3.heap[w.heap.size]? = some (.cells #[v, .int .i64 0] 62 (0, 0)) := (hb.block _ (by omega)).trans h.dec
  have e : dgCells ((dig n).take (k + 1)) = dgCells ((dig n).take k) ++ [.int .u8 x] := by
    rw [List.take_add_one, List.getElem?_eq_getElem hk]
    unfold dgCells
    rw [List.map_append]
    subst hx
    rfl
  refine ⟨by simpa using Lib.heap_setCell_same hd (i := 0) v', ?_, fun j hj => ?_, ?_, h1, h2, by simpa using hs⟩
  · rw [e]; exact ownsF_set hr (by show w.heap.size < B; omega) _
  · rw [World.cell?_setCell_other _ _ _ _ (by intro e; injection e with e; omega), cell_of_below hb (by omega)]
    exact h.view j hj
  · exact (h.below.trans (hb.mono (by omega))).setCell (p := ⟨w.heap.size, 0, none⟩) (Nat.le_refl _) _
theorem ND.start {n : Nat} {w w2 : World} (hd : w2.heap[w.heap.size]? = some (.cells #[.slice none 0 0, .int .i64 0] 62 (0, 0))) (hb : Below w.heap.size w w2) :
    ND n w w2.heap.size (w2.heap.size + 1) 0 (.slice none 0 0) (Lib.bytesWorld w2 5 ⟨(digText n).toArray⟩) := by
  have hlt : w.heap.size < w2.heap.size := lt_of_block hd
  have hsz : (Lib.bytesWorld w2 5 ⟨(digText n).toArray⟩).heap.size = w2.heap.size + 1 := Lib.bytesWorld_size _ _ _
  refine ⟨(Lib.bytesWorld_at_old w2 _ _ _ hlt).trans hd, World.ownsRowF_nil _ _ _ _, fun j hj => ?_, hb.trans ⟨rfl, rfl, rfl, by rw [hsz]; omega, fun k hk => Lib.bytesWorld_at_old w2 _ _ k (by omega)⟩, hlt, by omega, by omega⟩
  have hl : (digText n).length = (dig n).length := by simp [digText]
  have h3 : (dig n)[j] < 10 := digs_dig n _ (List.getElem_mem _)
  rw [Lib.bytesWorld_cell w2 _ _ j (by show j < (digText n).toArray.size; simp; omega)]
  have e : (digText n).getD j 0 = UInt8.ofNat (48 + (dig n)[j]) := by
    rw [List.getD_eq_getElem?_getD]
    simp [digText, List.getElem?_map, List.getElem?_eq_getElem hj]
  simp only [e]
  congr 2
  simp
  omega
theorem ND.done {n : Nat} {w : World} {R B : Nat} {v : Value} {wr : World} (h : ND n w R B (dig n).length v wr) : DecAt (wr.setCell ⟨w.heap.size, 1, none⟩ (.int .i64 (dig n).length)) w.heap.size (dig n) (dig n).length := by
  have h1 := h.row
  rw [List.take_length] at h1
  have : DecAt wr w.heap.size (dig n) 0 := ⟨v, h.dec, drow_of h1⟩
  exact this.setDp _

structure NewD (v : Nat) (out : List Nat) (dp : Nat) : Prop where
  len : out.length ≤ dp
  most : dp ≤ 20
  digs : Digs out
  ne : out ≠ []
  first : out.getD 0 0 ≠ 0
  last : out.getD (out.length - 1) 0 ≠ 0
  val : DVal out dp v 1
  next : numP out (dp + 1) = 10 * v
  pos : 0 < numL out
theorem new_of {v : Nat} (hv : 0 < v) (hm : v < 10 ^ 20) {cur : List Nat} {r : Nat} (h : dig v = cur ++ List.replicate r 0) (hlast : cur ≠ [] → cur.getD (cur.length - 1) 0 ≠ 0) : NewD v cur (dig v).length := by
  have hf := dig_first hv
  have hne : cur ≠ [] := by
    rintro rfl
    rw [h] at hf
    cases r with
    | zero => simp at hf
    | succ r => simp [List.replicate_succ] at hf
  have hp : 0 < cur.length := List.length_pos_iff.2 hne
  have hval : DVal cur (dig v).length v 1 := DVal.trims r (by rw [← h]; exact DVal.whole v)
  have hlen : cur.length ≤ (dig v).length := by rw [h]; simp
  have hnum : numP cur (dig v).length = v := by
    obtain ⟨j, _, hj⟩ := hval
    rw [numP_far cur hlen, Nat.mul_one] at hj
    exact Nat.eq_of_mul_eq_mul_right (Nat.pow_pos (by decide)) hj
  refine ⟨hlen, dig_len 19 v hm, fun d hd => digs_dig v d (by rw [h]; simp [hd]), hne, ?_, hlast hne, hval, ?_, ?_⟩
  · rw [h, List.getD_eq_getElem?_getD, List.getElem?_append_left hp, ← List.getD_eq_getElem?_getD] at hf
    exact hf
  · rw [numP_far cur hlen, hnum]; omega
  · refine Nat.pos_of_ne_zero fun h0 => ?_
    have e : (dig v).length = cur.length + ((dig v).length - cur.length) := by omega
    rw [e, numP_far cur (Nat.le_refl _), numP_all, h0, Nat.zero_mul] at hnum
    omega
theorem new_zero {cur : List Nat} {r : Nat} (h : dig 0 = cur ++ List.replicate r 0) (hlast : cur ≠ [] → cur.getD (cur.length - 1) 0 ≠ 0) : cur = [] := by
  refine Classical.byContradiction fun hne => ?_
  have h0 : dig 0 = [0] := by unfold dig; simp
  rw [h0] at h
  have h1 := hlast hne
  cases cur with
  | nil => exact hne rfl
  | cons a l =>
    simp at h
    obtain ⟨rfl, hl, _⟩ := h
    subst hl
    simp at h1
theorem ND.cells {n : Nat} {w : World} {R B k : Nat} {v v' : Value} {wr w3 : World} (h : ND n w R B k v wr) {m : Nat} {xs : List Value} (ho : Lib.OwnBuf B 5 v' m xs wr w3) : w3.cell? ⟨w.heap.size, 0, none⟩ = some v ∧ w3.frozen? ⟨w.heap.size, 0, none⟩ = false ∧ w3.frozen? ⟨w.heap.size, 1, none⟩ = false ∧ w3.cell? ⟨w.heap.size, 1, none⟩ = some (.int .i64 0) := by
  have h1 := h.lo
  have h2 := h.mid
  have hd : w3.heap[w.heap.size]? = some (.cells #[v, .int .i64 0] 62 (0, 0)) := (ho.2.1.block _ (by omega)).trans h.dec
  simp [World.cell?, World.frozen?, hd]
theorem new_post {n : Nat} {w w3 w4 : World} {cur : List Nat} {r : Nat} (hn : n < 10 ^ 20) (h : dig n = cur ++ List.replicate r 0) (hlast : cur ≠ [] → cur.getD (cur.length - 1) 0 ≠ 0) (hdec : DecAt w4 w.heap.size cur (if cur = [] then 0 else ((dig n).length : Int))) (hg : w3.grownBy w4 (some w.heap.size)) (hB : Below w.heap.size w w3) :
    ∃ out dp D, Ending.returned (.pointer (some ⟨w.heap.size, 0, none⟩)) = .returned (.pointer (some ⟨D, 0, none⟩)) ∧ w.heap.size ≤ D ∧ DecAt w4 D out (dp : Nat) ∧ Below w.heap.size w w4 ∧ (n = 0 → out = [] ∧ dp = 0) ∧ (0 < n → NewD n out dp) := by
  have hb := hB.grown hg hB.size (fun k hk => by injection hk with hk; omega)
  by_cases h0 : n = 0
  · subst h0
    have := new_zero h hlast
    subst this
    exact ⟨[], 0, w.heap.size, rfl, Nat.le_refl _, by simpa using hdec, hb, fun _ => ⟨rfl, rfl⟩, fun h => absurd h (by omega)⟩
  · have hN := new_of (by omega) hn h hlast
    rw [if_neg hN.ne] at hdec
    exact ⟨cur, _, w.heap.size, rfl, Nat.le_refl _, hdec, hb, fun h => absurd h h0, fun _ => hN⟩
def NewPost (v : Nat) (w : World) (e : Ending) (w' : World) : Prop := ∃ out dp D, e = .returned (.pointer (some ⟨D, 0, none⟩)) ∧ w.heap.size ≤ D ∧ DecAt w' D out (dp : Nat) ∧ Below w.heap.size w w' ∧ (v = 0 → out = [] ∧ dp = 0) ∧ (0 < v → NewD v out dp)

set_option maxRecDepth 100000 in
set_option maxHeartbeats 3200000 in
theorem newDecimal_any (n : Nat) (w : World) (hn : n < 18446744073709551616) :
    Calls Try.prog 20 #[.int .u64 n] w (NewPost n w) := by
  have hn2 : n < 10 ^ 20 := by omega
  have hd0 := Lib.hid (digs_dig n)
  have hd1 := dig_len 19 n hn2
  have hdl : (digText n).length = (dig n).length := by simp [digText]
  unfold NewPost
  go_enter Try.func20, Try.ntmps20
  go_wp2_with fail
  refine (formatUint_any n _ hn).mono ?_
  rintro e w2 ⟨rfl, hb⟩
  have hB := Lib.hid (((Below.refl _ _).alloc (Nat.le_refl _) _).trans (hb.mono (by simp)))
  have hD := Lib.hid ((hb.block w.heap.size (by simp)).trans (heap_alloc_new w _))
  clear hb
  have HS := Lib.hid (ND.start (n := n) hD.out hB.out)
  have hconv := Lib.run_convert_string_bytes (P := Try.prog) w2 9 25 5 ⟨(digText n).toArray⟩ Try.underlying9 Try.underlying25 Try.underlying5
  have hsz : (⟨(digText n).toArray⟩ : ByteArray).size = (dig n).length := by show (digText n).toArray.size = _; simp [hdl]
  rw [hsz] at hconv
  go_wp2_with fail
  generalize Lib.bytesWorld w2 _ _ = W3 at *
  obtain ⟨ti, hti, hz0, hz1, hz2⟩ := byteInfo
  have HTI := Lib.hid (And.intro hti (And.intro hz0 (And.intro hz1 hz2)))
  clear hti hz0 hz1 hz2 hconv hsz hD hdl
  go_loopg [10] 20 (fun gk s10 wr => ∃ (k : Nat) (v : Value), s10 = .int .i64 k ∧ gk = 20 - k ∧ k ≤ (dig n).length ∧ Hid (ND n w w2.heap.size (w2.heap.size + 1) k v wr))
  case atStart => exact ⟨0, _, rfl, rfl, Nat.zero_le _, HS⟩
  case round =>
    obtain ⟨k, v, rfl, rfl, hk, HN⟩ := hrel
    clear HS
    obtain ⟨a, c, hv, -, -⟩ := drow_of (l := (dig n).take k) (B := w2.heap.size + 1) (v := v) (w := wr) (by have h1 := HN.out.row; rw [List.length_take, Nat.min_eq_left hk]; exact h1)
    rw [List.length_take, Nat.min_eq_left hk] at hv
    subst hv
    obtain ⟨c0, f0, f1, c1⟩ := HN.out.cells HN.out.own
    by_cases hlt : k < (dig n).length
    · have hj : (k : Int) < ((dig n).length : Int) := by omega
      have hcell := HN.out.view k hlt
      have hd10 : (dig n)[k] < 10 := hd0.out _ (List.getElem_mem _)
      have HP := Lib.hid (fun (v' : Value) (w3 : World) (x : Int) (hx : x = ((dig n)[k] : Nat)) h => HN.out.push (v' := v') (w3 := w3) hlt (x := x) hx h)
      generalize (dig n)[k] = d at *
      go_wp2_with (at_builtin; refine Lib.wpList_append_byte rfl _ _ 25 rfl (w2.heap.size + 1) 5 ti Try.underlying25 HTI.out.1 HTI.out.2.1 HTI.out.2.2.1 HTI.out.2.2.2 (.slice a k c) k (dgCells ((dig n).take k)) rfl wr _ (48 + (d : Int) - 48) HN.out.own rfl (by omega) ?_; intro v' w3 ho3; obtain ⟨a3, c3, hv3⟩ := own_shape ho3.1; subst hv3; obtain ⟨d0, g0, g1, d1⟩ := HN.out.cells ho3; have HO3 := Lib.hid (HP.out _ w3 _ (by omega) ho3); clear ho3)
      go_roundg (20 - (k + 1))
      case measure => omega
      case rel => exact ⟨k + 1, _, by go_num, rfl, hlt, HO3⟩
    · have hj : ¬ ((k : Int) < ((dig n).length : Int)) := by omega
      have hke : k = (dig n).length := by omega
      have HDN := Lib.hid (HN.out)
      rw [hke] at HDN
      have HDD := Lib.hid HDN.out.done
      have HBB := Lib.hid (HN.out.below.setCell (p := ⟨w.heap.size, 1, none⟩) (Nat.le_refl _) (.int .i64 k))
      subst hke
      have hd2 : (dig n).length ≤ 100000 := by omega
      go_wp2_with fail
      refine (trim_any _ (dig n) _ _ HDD.out hd2).mono ?_
      rintro e w4 ⟨cur, r, hcur, hlast, rfl, hdec, hg4⟩
      have HE := Lib.hid (new_post hn2 hcur hlast hdec hg4 HBB.out)
      clear hcur hlast hdec hg4
      go_wp2_with fail
      go_ret
      exact HE.out
end Go.Proofs.Ytjpcdbopioblaaa
