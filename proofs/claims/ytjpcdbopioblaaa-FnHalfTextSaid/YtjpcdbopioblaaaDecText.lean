/- 'text' of a decimal walked. -/
import Derived.Test.YtjpcdbopioblaaaNewDec
import Derived.Lib.BufferRead
namespace Go.Proofs.Ytjpcdbopioblaaa
open Go.RowKit

/-- Digits i, i+1, .. as letters. -/
def lets (ds : List Nat) (i n : Nat) : List Nat := (List.range n).map fun j => 48 + ds.getD (i + j) 0
theorem lets_succ (ds : List Nat) (i n : Nat) : lets ds i (n + 1) = lets ds i n ++ [48 + ds.getD (i + n) 0] := by simp [lets, List.range_succ]
theorem lets_push (X ds : List Nat) (i n : Nat) : X ++ lets ds i n ++ [48 + ds.getD (i + n) 0] = X ++ lets ds i (n + 1) := by rw [lets_succ, List.append_assoc]
theorem lets_len (ds : List Nat) (i n : Nat) : (lets ds i n).length = n := by simp [lets]
/-- The form f of a decimal. -/
def textL (ds : List Nat) (dp prec : Nat) : List Nat := (if dp = 0 then [48] else lets ds 0 dp) ++ (if prec = 0 then [] else 46 :: lets ds dp prec)
def textB (l : List Nat) : ByteArray := ⟨(l.map UInt8.ofNat).toArray⟩
theorem lets_lt {ds : List Nat} (h : Digs ds) (i n : Nat) : ∀ x ∈ lets ds i n, x < 256 := by
  intro x hx
  simp only [lets, List.mem_map] at hx
  obtain ⟨j, _, rfl⟩ := hx
  have := h.getD (i + j)
  omega
theorem textL_lt {ds : List Nat} (h : Digs ds) (dp prec : Nat) : ∀ x ∈ textL ds dp prec, x < 256 := by
  intro x hx
  simp only [textL, List.mem_append] at hx
  rcases hx with hx | hx
  · split at hx
    · simp at hx; omega
    · exact lets_lt h _ _ _ hx
  · split at hx
    · simp at hx
    · rcases List.mem_cons.1 hx with rfl | hx
      · omega
      · exact lets_lt h _ _ _ hx
/-- Bytes of the call's own, as a string. -/
theorem own_text {B : Nat} {v : Value} {l : List Nat} {W0 w : World} (h : Lib.OwnBuf B 5 v l.length (dgCells l) W0 w) (hl : ∀ x ∈ l, x < 256) : (convert 25 9 v).run Try.prog w = .ok (.string (textB l)) w := by
  have hlen : (l.map UInt8.ofNat).length = l.length := by simp
  obtain ⟨hn, ⟨rfl, h0⟩ | ⟨g, cap, cur, fz, rfl, hb, hg, hf, hn2, hc, hcs, htk⟩⟩ := h.1
  · have : l = [] := List.eq_nil_of_length_eq_zero h0
    subst this
    exact Lib.run_convert_nil_bytes w _ _ 5 0 Try.underlying25 Try.underlying5 Try.underlying9
  · rw [← hlen]
    refine run_convert_bytes_back w _ _ 5 ⟨g, 0, none⟩ cap (l.map UInt8.ofNat) Try.underlying25 Try.underlying5 Try.underlying9 (fun j hj => ?_)
    have hj2 : j < l.length := by omega
    have h1 : (cur.toList.take (l.length * 1))[j]? = some (.int .u8 (l[j] : Nat)) := by
      rw [htk]; simp [dgCells, List.getElem?_eq_getElem hj2]
    rw [List.getElem?_take_of_lt (by omega)] at h1
    have e : (⟨g, 0, none⟩ : Addr).add j = ⟨g, j, none⟩ := by unfold Addr.add; split <;> simp_all
    have e2 : (l.map UInt8.ofNat)[j].toNat = l[j] := by
      have := hl l[j] (List.getElem_mem _)
      simp; omega
    rw [e, e2]
    simp only [World.cell?, hg]
    simpa using h1
/-- While the text is laid. -/
structure TX (b : Nat) (ds : List Nat) (dp : Nat) (w : World) (out : List Nat) (v : Value) (wr : World) : Prop where
  dec : DecAt w b ds dp
  own : Lib.OwnBuf w.heap.size 5 v out.length (dgCells out) w wr
theorem TX.here {b : Nat} {ds : List Nat} {dp : Nat} {w : World} {out : List Nat} {v : Value} {wr : World} (h : TX b ds dp w out v wr) : DecAt wr b ds dp := h.dec.kept h.own.2.1
theorem TX.push {b : Nat} {ds : List Nat} {dp : Nat} {w : World} {out : List Nat} {v v' : Value} {wr w3 : World} (h : TX b ds dp w out v wr) {x : Int} (q : Nat) (hq : x = q) (ho : Lib.OwnBuf w.heap.size 5 v' (out.length + 1) (dgCells out ++ [.int .u8 x]) w w3) : TX b ds dp w (out ++ [q]) v' w3 :=
  ⟨h.dec, own_snoc hq.symm ho⟩

set_option maxRecDepth 100000 in
set_option maxHeartbeats 3200000 in
theorem text_any (b : Nat) (ds : List Nat) (dp prec : Nat) (w : World) (h : DecAt w b ds dp) (hd : Digs ds) (hdp : dp ≤ 1000) (hp : prec ≤ 1000) :
    Calls Try.prog 25 #[.pointer (some ⟨b, 0, none⟩), .int .i64 prec] w fun e w' => e = .returned (.string (textB (textL ds dp prec))) ∧ Below w.heap.size w w' := by
  have HX0 : Hid (TX b ds dp w [] (.slice none 0 0) w) := Lib.hid ⟨h, World.ownsRowF_nil _ _ _ _, Below.refl _ _, Nat.le_refl _⟩
  have HD := Lib.hid hd
  clear h hd
  obtain ⟨ti, hti, hz0, hz1, hz2⟩ := byteInfo
  have HTI := Lib.hid (And.intro hti (And.intro hz0 (And.intro hz1 hz2)))
  clear hti hz0 hz1 hz2
  go_enter Try.func25, Try.ntmps25
  go_wp2_with fail
  go_loopg [5, 6] dp (fun gk s5 s6 wr => ∃ (i : Nat) (v : Value), s5 = v ∧ s6 = .int .i64 i ∧ gk = dp - i ∧ i ≤ dp ∧ Hid (TX b ds dp w (lets ds 0 i) v wr))
  case atStart => exact ⟨0, _, rfl, rfl, rfl, Nat.zero_le _, HX0⟩
  case round =>
    obtain ⟨i, v, rfl, rfl, rfl, hi, HX⟩ := hrel
    clear HX0
    obtain ⟨a5, c5, hv⟩ := own_shape HX.out.own.1
    rw [lets_len] at hv
    subst hv
    obtain ⟨a, c, c0, c1, -⟩ := HX.out.here.open
    by_cases hlt : i < dp
    · have hj : (i : Int) < (dp : Int) := by omega
      have hd10 := HD.out.getD i
      have HP := Lib.hid (fun (v' : Value) (w3 : World) (x : Int) (hx : x = ((48 + ds.getD (0 + i) 0 : Nat) : Int)) h => HX.out.push (v' := v') (w3 := w3) (x := x) (48 + ds.getD (0 + i) 0) hx h)
      rw [lets_len, ← lets_succ, Nat.zero_add] at HP
      go_wp2_with fail
      refine (digit_any b ds dp i _ HX.out.here).mono ?_
      rintro e w2 ⟨rfl, rfl⟩
      have HO := Lib.hid HX.out.own
      rw [lets_len] at HO
      generalize ds.getD i 0 = d at *
      go_wp2_with (at_builtin; refine Lib.wpList_append_byte rfl _ _ 25 rfl w.heap.size 5 ti Try.underlying25 HTI.out.1 HTI.out.2.1 HTI.out.2.2.1 HTI.out.2.2.2 (.slice a5 i c5) i (dgCells (lets ds 0 i)) rfl w _ (48 + (d : Int)) HO.out rfl (by omega) ?_; intro v' w3 ho3; obtain ⟨a3, c3, hv3⟩ := own_shape ho3.1; subst hv3; have HO3 := Lib.hid (HP.out _ w3 _ (by omega) ho3); clear ho3)
      go_roundg (dp - (i + 1))
      case measure => omega
      case rel => exact ⟨i + 1, _, rfl, by go_num, rfl, by omega, HO3⟩
    · have hj : ¬ ((i : Int) < (dp : Int)) := by omega
      have hie : i = dp := by omega
      subst hie
      by_cases h0 : i = 0
      · subst h0
        have e0 : lets ds 0 0 = [] := rfl
        rw [e0] at HX
        by_cases hp0 : prec = 0
        · subst hp0
          have hE : textL ds 0 0 = [48] := rfl
          go_wp2_with (at_builtin; refine Lib.wpList_append_byte rfl _ _ 25 rfl w.heap.size 5 ti Try.underlying25 HTI.out.1 HTI.out.2.1 HTI.out.2.2.1 HTI.out.2.2.2 (.slice a5 0 c5) (0) (dgCells ([] : List Nat)) rfl w _ 48 HX.out.own rfl (by omega) ?_; intro v' w3 ho3; obtain ⟨a3, c3, hv3⟩ := own_shape ho3.1; subst hv3; have HX1 := Lib.hid (HX.out.push (v' := _) (w3 := w3) 48 (by omega) ho3); clear ho3; have hcv := own_text HX1.out.own (by simp); have HB := Lib.hid HX1.out.own.2.1)
          go_ret
          first | exact ⟨rfl, HB.out⟩ | exact ⟨by rw [hE], HB.out⟩
        · have hpp : (0 : Int) < (prec : Int) := by omega
          go_wp2_with (first
            | (at_builtin; refine Lib.wpList_append_byte rfl _ _ 25 rfl w.heap.size 5 ti Try.underlying25 HTI.out.1 HTI.out.2.1 HTI.out.2.2.1 HTI.out.2.2.2 (.slice a5 0 c5) (0) (dgCells ([] : List Nat)) rfl w _ 48 HX.out.own rfl (by omega) ?_; intro v' w3 ho3; obtain ⟨a3, c3, hv3⟩ := own_shape ho3.1; subst hv3; have HX1 := Lib.hid (HX.out.push (v' := _) (w3 := w3) 48 (by omega) ho3); clear ho3)
            | (at_builtin; refine Lib.wpList_append_byte rfl _ _ 25 rfl w.heap.size 5 ti Try.underlying25 HTI.out.1 HTI.out.2.1 HTI.out.2.2.1 HTI.out.2.2.2 (.slice a3 1 c3) (1) (dgCells [48]) rfl w _ 46 HX1.out.own rfl (by omega) ?_; intro v' w3 ho3; obtain ⟨a3, c3, hv3⟩ := own_shape ho3.1; subst hv3; have HX2 := Lib.hid (HX1.out.push (v' := _) (w3 := w3) 46 (by omega) ho3); clear ho3))
          go_loopg [5, 7] prec (fun gk s5 s7 wr => ∃ (j : Nat) (v : Value), s5 = v ∧ s7 = .int .i64 j ∧ gk = prec - j ∧ j ≤ prec ∧ Hid (TX b ds 0 w ([48] ++ [46] ++ lets ds 0 j) v wr))
          case atStart => exact ⟨0, _, rfl, rfl, rfl, Nat.zero_le _, Lib.hid (by have h := HX2.out; simpa [lets] using h)⟩
          case round =>
            obtain ⟨j, v, rfl, rfl, rfl, hj, HXj⟩ := hrel
            clear HX2
            obtain ⟨nn, hL⟩ : ∃ nn, ([48] ++ [46] ++ lets ds 0 j).length = nn := ⟨_, rfl⟩
            have hnb : nn ≤ 5000 := by rw [← hL]; simp [lets_len]; omega
            obtain ⟨a7, c7, hv⟩ := own_shape HXj.out.own.1
            rw [hL] at hv
            subst hv
            have HO := Lib.hid HXj.out.own
            obtain ⟨b1, b2, d0, d1, -⟩ := HXj.out.here.open
            by_cases hlt2 : j < prec
            · have hjj : (j : Int) < (prec : Int) := by omega
              have hdg := digit_any b ds 0 (0 + j) _ HXj.out.here
              have hd10 := HD.out.getD (0 + j)
              have HP := Lib.hid (fun (v' : Value) (w3 : World) (x : Int) (hx : x = ((48 + ds.getD (0 + j) 0 : Nat) : Int)) h => HXj.out.push (v' := v') (w3 := w3) (x := x) (48 + ds.getD (0 + j) 0) hx h)
              rw [lets_push] at HP
              simp only [Nat.zero_add] at hdg hd10 HP
              have HDG := Lib.hid hdg
              clear hdg
              rw [hL] at HP HO
              have hbnd : nn + 1 ≤ 140737488355328 := by omega
              go_wp2_with fail
              refine (HDG.out).mono ?_
              rintro e w2 ⟨rfl, rfl⟩
              generalize ds.getD j 0 = d at *
              go_wp2_with (at_builtin; refine Lib.wpList_append_byte rfl _ _ 25 rfl w.heap.size 5 ti Try.underlying25 HTI.out.1 HTI.out.2.1 HTI.out.2.2.1 HTI.out.2.2.2 (.slice a7 nn c7) nn (dgCells ([48] ++ [46] ++ lets ds 0 j)) rfl w _ (48 + (d : Int)) HO.out rfl hbnd ?_; intro v' w3 ho3; obtain ⟨a3, c3, hv3⟩ := own_shape ho3.1; subst hv3; have HO3 := Lib.hid (HP.out _ w3 _ (by omega) ho3); clear ho3)
              go_roundg (prec - (j + 1))
              case measure => omega
              case rel => exact ⟨j + 1, _, rfl, by go_num, rfl, by omega, HO3⟩
            · have hjj : ¬ ((j : Int) < (prec : Int)) := by omega
              have hje : j = prec := by omega
              subst hje
              have hE : textL ds 0 j = [48] ++ [46] ++ lets ds 0 j := by simp [textL, show j ≠ 0 by omega]
              have hcv := own_text HO.out (by rw [← hE]; exact textL_lt HD.out _ _)
              rw [← hE] at hcv
              have HB := Lib.hid HO.out.2.1
              clear hL hE
              go_wp2_with fail
              go_ret
              exact ⟨rfl, HB.out⟩
      · have hi0 : (0 : Int) < (i : Int) := by omega
        have hie : ((i : Int) == 0) = false := beq_eq_false_iff_ne.2 (by omega)
        have HO5 := Lib.hid HX.out.own
        rw [lets_len] at HO5
        by_cases hp0 : prec = 0
        · subst hp0
          have hE : textL ds i 0 = lets ds 0 i := by simp [textL, h0]
          have hcv := own_text HX.out.own (lets_lt HD.out _ _)
          have HB := Lib.hid HX.out.own.2.1
          go_wp2_with fail
          go_ret
          first | exact ⟨rfl, HB.out⟩ | exact ⟨by rw [hE], HB.out⟩
        · have hpp : (0 : Int) < (prec : Int) := by omega
          have HP5 := Lib.hid (fun (v' : Value) (w3 : World) (x : Int) (hx : x = ((46 : Nat) : Int)) h => HX.out.push (v' := v') (w3 := w3) (x := x) 46 hx h)
          rw [lets_len] at HP5
          go_wp2_with (at_builtin; refine Lib.wpList_append_byte rfl _ _ 25 rfl w.heap.size 5 ti Try.underlying25 HTI.out.1 HTI.out.2.1 HTI.out.2.2.1 HTI.out.2.2.2 (.slice a5 i c5) i (dgCells (lets ds 0 i)) rfl w _ 46 HO5.out rfl (by omega) ?_; intro v' w3 ho3; obtain ⟨a3, c3, hv3⟩ := own_shape ho3.1; subst hv3; have HX2 := Lib.hid (HP5.out _ w3 _ rfl ho3); clear ho3)
          go_loopg [5, 7] prec (fun gk s5 s7 wr => ∃ (j : Nat) (v : Value), s5 = v ∧ s7 = .int .i64 j ∧ gk = prec - j ∧ j ≤ prec ∧ Hid (TX b ds i w (lets ds 0 i ++ [46] ++ lets ds i j) v wr))
          case atStart => exact ⟨0, _, rfl, rfl, rfl, Nat.zero_le _, Lib.hid (by have h := HX2.out; simpa [lets] using h)⟩
          case round =>
            obtain ⟨j, v, rfl, rfl, rfl, hj, HXj⟩ := hrel
            clear HX2
            obtain ⟨nn, hL⟩ : ∃ nn, (lets ds 0 i ++ [46] ++ lets ds i j).length = nn := ⟨_, rfl⟩
            have hnb : nn ≤ 5000 := by rw [← hL]; simp [lets_len]; omega
            obtain ⟨a7, c7, hv⟩ := own_shape HXj.out.own.1
            rw [hL] at hv
            subst hv
            have HO := Lib.hid HXj.out.own
            obtain ⟨b1, b2, d0, d1, -⟩ := HXj.out.here.open
            by_cases hlt2 : j < prec
            · have hjj : (j : Int) < (prec : Int) := by omega
              have hdg := digit_any b ds i (i + j) _ HXj.out.here
              simp only [Int.natCast_add] at hdg
              have hd10 := HD.out.getD (i + j)
              have HP := Lib.hid (fun (v' : Value) (w3 : World) (x : Int) (hx : x = ((48 + ds.getD (i + j) 0 : Nat) : Int)) h => HXj.out.push (v' := v') (w3 := w3) (x := x) (48 + ds.getD (i + j) 0) hx h)
              rw [lets_push] at HP
              have HDG := Lib.hid hdg
              clear hdg
              rw [hL] at HP HO
              have hbnd : nn + 1 ≤ 140737488355328 := by omega
              go_wp2_with fail
              refine (HDG.out).mono ?_
              rintro e w2 ⟨rfl, rfl⟩
              generalize ds.getD (i + j) 0 = d at *
              go_wp2_with (at_builtin; refine Lib.wpList_append_byte rfl _ _ 25 rfl w.heap.size 5 ti Try.underlying25 HTI.out.1 HTI.out.2.1 HTI.out.2.2.1 HTI.out.2.2.2 (.slice a7 nn c7) nn (dgCells (lets ds 0 i ++ [46] ++ lets ds i j)) rfl w _ (48 + (d : Int)) HO.out rfl hbnd ?_; intro v' w3 ho3; obtain ⟨a3, c3, hv3⟩ := own_shape ho3.1; subst hv3; have HO3 := Lib.hid (HP.out _ w3 _ (by omega) ho3); clear ho3)
              go_roundg (prec - (j + 1))
              case measure => omega
              case rel => exact ⟨j + 1, _, rfl, by go_num, rfl, by omega, HO3⟩
            · have hjj : ¬ ((j : Int) < (prec : Int)) := by omega
              have hje : j = prec := by omega
              subst hje
              have hE : textL ds i j = lets ds 0 i ++ [46] ++ lets ds i j := by simp [textL, show j ≠ 0 by omega, h0]
              have hcv := own_text HO.out (by rw [← hE]; exact textL_lt HD.out _ _)
              rw [← hE] at hcv
              have HB := Lib.hid HO.out.2.1
              clear hL hE
              go_wp2_with fail
              go_ret
              exact ⟨rfl, HB.out⟩
end Go.Proofs.Ytjpcdbopioblaaa
