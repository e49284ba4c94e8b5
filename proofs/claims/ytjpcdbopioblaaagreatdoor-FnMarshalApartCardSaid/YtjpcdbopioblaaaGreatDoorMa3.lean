/- Texts of this proof laid together by a program: FmtFloat, Floats3, FmtFloat2, EncFloat, EncInt, Shelf, Ext, Look, EncPlain. -/
import Derived.Test.YtjpcdbopioblaaaGreatDoorMa1
import Derived.Test.YtjpcdbopioblaaaGreatDoorMa2
import Derived.Laws.Bits64b
import Derived.Laws.BitsAllLaws
import Derived.Lib.JoinLaws
import Derived.Deep.AppendSrc
import Derived.Laws.FloatArith
import Derived.Shelf.Strings.Builder1
import Derived.Shelf.Strings.Builder2
import Derived.Shelf.Small.Bits
import Derived.Shelf.Strings.BuilderF
import Derived.Shelf.Strings.BuilderK
import Derived.Shelf.Strconv.Itoa0
import Derived.Shelf.Unicode.Decode
import Derived.Shelf.Unicode.DecodeSlow
import Derived.Shelf.Unicode.ValidAny
import Derived.Shelf.Unicode.DecodeAny
import Derived.Test.YtjpcdbopioblaaaGreatDoorProg
import Derived.BigQuiet
import Derived.Deep.QuietTactic
import Derived.Deep.DeepCutAuto
import Derived.StillTailTactics
import Derived.Deep.CutBlock
import Derived.Deep.LoopGhost
import Derived.Lib.Hide
import Derived.Lib.ValidU
import Derived.Lib.ValidLaws
/- 'FormatFloat' walked at a half, in the form f. -/
namespace Go.Proofs.YtjpcdbopioblaaaGreatDoor
open Go.RowKit

theorem f64bits_run (B : Nat) (W : World) : (callFunc 177 #[.float .f64 B]).run Tryz.prog W = .ok (.value (.int .u64 B)) W := by
  rw [run_callFunc_extern Tryz.func177 (by kernel_rfl) (by kernel_rfl) (by kernel_rfl) (e := Extern.MathFloatBits.float64bits) (by kernel_rfl)]
  rfl
/-- The one result of a function that keeps it in a cell. -/
theorem results_cellF {fn : Func} {p : Tmp} {ty : TypeId} (h : fn.results = #[.cell p ty]) (tmps : Array Value) (P : Program) (w : World) :
    (results fn tmps).run P w = ((asAddr (tmps.getD p undef)).run P w).andThen fun a w₁ => (loadVar ty a).run P w₁ := by
  simp only [results, h]
  simp [Sem.run_bind, Result.andThen]
theorem formOf_any (w : World) : Calls Tryz.prog 198 #[.int .i64 64] w fun e w' => e = .returned (.agg #[.int .i64 52, .int .i64 11, .int .i64 (-1023)]) ∧ Below w.heap.size w w' := by
  go_enter Tryz.func198, Tryz.ntmps198
  go_wp2_with fail
  refine bodyPost_ret (v := .agg #[.int .i64 52, .int .i64 11, .int .i64 (-1023)]) (by rw [results_cellF rfl]; go_simp) rfl ?_
  exact ⟨rfl, ((Below.refl _ w).alloc (Nat.le_refl _) _)⟩
/-- The text of a half: m of them, below 0 or not. -/
def numTxt (neg : Bool) (m : Nat) : List Nat := (if neg then [45] else []) ++ (dig (m / 2)).map (48 + ·) ++ (if m % 2 = 1 then [46, 53] else [])
theorem text_half {ds : List Nat} {dp m : Nat} (hd : Digs ds) (h0 : ds.getD 0 0 ≠ 0) (hlast : ds.getD (ds.length - 1) 0 ≠ 0) (hne : ds ≠ []) (hv : DVal ds dp m 2) : textL ds dp (m % 2) = (dig (m / 2)).map (48 + ·) ++ (if m % 2 = 1 then [46, 53] else []) := by
  obtain ⟨h1, h2, h3, h4⟩ := half_int hd hlast hne hv
  have hl : ∀ n, lets ds 0 n = ((List.range n).map fun j => ds.getD j 0).map (48 + ·) := fun n => by
    simp [lets, List.map_map]
  have e1 : (if dp = 0 then [48] else lets ds 0 dp) = (dig (m / 2)).map (48 + ·) := by
    by_cases hz : dp = 0
    · subst hz
      have : m / 2 = 0 := by rw [← h1]; rfl
      rw [if_pos rfl, this]
      unfold dig
      simp
    · rw [if_neg hz, hl, dig_of_first hd h0 (by omega), h1]
  have e2 : (if m % 2 = 0 then [] else 46 :: lets ds dp (m % 2)) = (if m % 2 = 1 then [46, 53] else []) := by
    rcases Nat.mod_two_eq_zero_or_one m with h | h
    · rw [h]; rfl
    · rw [h] at h2 ⊢
      simp [lets]
      simp at h2
      rw [h2]
  unfold textL
  rw [e1, e2]
theorem half_prec {ds : List Nat} {dp m : Nat} (hd : Digs ds) (hlast : ds.getD (ds.length - 1) 0 ≠ 0) (hne : ds ≠ []) (hv : DVal ds dp m 2) : ((ds.length : Int) - (dp : Int) ≤ 0 ∧ m % 2 = 0) ∨ ((ds.length : Int) - (dp : Int) = 1 ∧ m % 2 = 1) := by
  obtain ⟨_, _, h3, h4⟩ := half_int hd hlast hne hv
  rcases Nat.mod_two_eq_zero_or_one m with h | h
  · have := h3 h; exact .inl ⟨by omega, h⟩
  · have := h4 h; exact .inr ⟨by omega, h⟩

theorem textB_append (a b : List Nat) : textB (a ++ b) = textB a ++ textB b := by
  refine ByteArray.ext ?_
  simp [textB]
theorem textB_size (l : List Nat) : (textB l).size = l.length := by
  show ((l.map UInt8.ofNat).toArray).size = _
  simp
theorem textL_size (ds : List Nat) (dp p n : Nat) (h : dp ≤ n) (hp : p ≤ n) : (textB (textL ds dp p)).size ≤ 2 * n + 2 := by
  rw [textB_size, textL, List.length_append]
  have h1 : (if dp = 0 then [48] else lets ds 0 dp).length ≤ n + 1 := by split <;> simp [lets_len] <;> omega
  have h2 : (if p = 0 then [] else 46 :: lets ds dp p).length ≤ n + 1 := by split <;> simp [lets_len] <;> omega
  omega

set_option maxRecDepth 100000 in
set_option maxHeartbeats 3200000 in
theorem formatFloat_half (neg : Bool) (B m s K : Nat) (E : Int) (w : World) (hE : E = 1076 - (K : Int)) (hs : 4 * s = m * 2 ^ K) (hK : 2 ≤ K ∧ K ≤ 54) (hs1 : 4503599627370496 ≤ s) (hs2 : s < 9007199254740992)
    (hsg : ((B : Int) / 9223372036854775808 != 0) = neg) (hbE : bits .and .i64 (wrap64 ((B : Int) / 4503599627370496)) 2047 = E) (hbM : bits .and .u64 (B : Int) 4503599627370495 = (s : Int) - 4503599627370496) (hbO : bits .or .u64 ((s : Int) - 4503599627370496) 4503599627370496 = (s : Int)) :
    Calls Tryz.prog 178 #[.float .f64 B, .int .u8 102, .int .i64 (-1), .int .i64 64] w fun e w' => e = .returned (.string (textB (numTxt neg m))) ∧ Below w.heap.size w w' := by
  have HE := Lib.hid hE
  have HS := Lib.hid hs
  have hE1 : 1022 ≤ E := by omega
  have hE2 : E < 1075 := by omega
  have hE3 : (E == 2047) = false := beq_eq_false_iff_ne.2 (by omega)
  have hE4 : (E == 0) = false := beq_eq_false_iff_ne.2 (by omega)
  have HK := Lib.hid hK
  have hpK : (2 : Nat) ^ K ≤ 2 ^ 54 := Nat.pow_le_pow_right (by decide) hK.2
  have hpK1 : (2 : Nat) ^ K = 2 ^ (K - 1) * 2 := by rw [← Nat.pow_succ]; congr 1; omega
  have HPK := Lib.hid (And.intro hpK hpK1)
  have HND : Hid (∀ wx, Calls Tryz.prog 200 #[.int .u64 (s : Int)] wx (NewPost s wx)) := Lib.hid fun wx => newDecimal_any s wx (by omega)
  have HSH : Hid (∀ (v b : Nat) (out : List Nat) (dp : Nat) (wx : World), NewD v out dp → DecAt wx b out dp → 2 ^ (K - 1) ≤ 10 * v → Calls Tryz.prog 201 #[.pointer (some ⟨b, 0, none⟩), .int .i64 (E + -1023 - 52)] wx fun e w' => e = .returned (.tuple #[]) ∧ wx.grownBy w' (some b) ∧ ∃ ds dp', Pos w' b ds dp' v (2 ^ (K - 1)) ∧ ds.getD (ds.length - 1) 0 ≠ 0) := Lib.hid fun v b out dp wx h1 h2 h3 => by
    have := shift_new h1 h2 (k := K - 1) (by omega) (by omega) h3
    rwa [show -((K - 1 : Nat) : Int) = E + -1023 - 52 by omega] at this
  have HSO : Hid (∀ (b : Nat) (ds : List Nat) (dp : Nat) (wx : World), DecAt wx b ds dp → Digs ds → ds.getD 0 0 ≠ 0 → ds.getD (ds.length - 1) 0 ≠ 0 → DVal ds dp m 2 → ds.length ≤ 200 → dp ≤ 100 →
      Calls Tryz.prog 202 #[.pointer (some ⟨b, 0, none⟩), .int .u64 s, .int .i64 (E + -1023), .agg #[.int .i64 52, .int .i64 11, .int .i64 (-1023)]] wx fun e w' => e = .returned (.pointer (some ⟨b, 0, none⟩)) ∧ Below wx.heap.size wx w') := Lib.hid fun b ds dp wx h1 h2 h3 h4 h5 h6 h7 => by
    have := short_any b ds dp m s K wx h1 h2 h3 h4 h5 h6 h7 hs hK hs1 hs2
    rwa [show 53 - (K : Int) = E + -1023 by omega] at this
  have hsi : (s : Int) < 9007199254740992 := by omega
  have hsj : (4503599627370496 : Int) ≤ (s : Int) := by omega
  clear hE hs hK hpK hpK1
  cases neg
  all_goals (
    have hx := fun W => f64bits_run B W
    go_enter Tryz.func178, Tryz.ntmps178
    go_wp2_with fail
    refine (formOf_any _).mono ?_
    rintro e w1 ⟨rfl, hb1⟩
    have HB1 : Hid (∀ o n, Below w.heap.size w ((w1.alloc o).drewN n)) := Lib.hid fun o n => by
      have h := hb1.alloc hb1.size o
      exact ⟨h.os, h.tape, h.output, h.size, h.block⟩
    have HFF : Hid (∀ n, FormAt ((w1.alloc (.cells #[.int .i64 52, .int .i64 11, .int .i64 (-1023)] 233)).drewN n) w1.heap.size) := Lib.hid fun n => heap_alloc_new w1 _
    have HF1 := Lib.hid hb1.size
    clear hb1
    go_wp2_with fail
    go_quiet (fail)
    go_wp2_with fail
    have HB2 := Lib.hid (HB1.out (.cells #[.int .i64 52, .int .i64 11, .int .i64 (-1023)] 233) nq)
    have HF2 := Lib.hid (HFF.out nq)
    clear HB1 HFF hx hsg hbE hbM hbO hE3 hE4
    generalize World.drewN _ nq = w2 at *
    obtain ⟨f0, f1, f2⟩ := HF2.out.cells
    refine (HND.out _).mono ?_
    rintro e w3 ⟨o1, p1, D1, rfl, hD1, hdec1, hb3, -, hN3⟩
    have HF3 : Hid (FormAt w3 w1.heap.size) := Lib.hid (HF2.out.below hb3)
    have HB3 : Hid (Below w.heap.size w w3) := Lib.hid (HB2.out.trans (hb3.mono HB2.out.size))
    have HQ := Lib.hid (And.intro hdec1 (And.intro (hN3 (by omega)) (And.intro hD1 (lt_of_block' HF2.out))))
    have HB2s := Lib.hid HB2.out.size
    clear hdec1 hb3 hN3 hD1 HF2 HB2 f0 f1 f2
    obtain ⟨f0, f1, f2⟩ := HF3.out.cells
    go_wp2_with fail
    refine (HSH.out _ _ _ _ _ HQ.out.2.1 HQ.out.1 (by have := HPK.out; omega)).mono ?_
    rintro e w4 ⟨rfl, hg4, ds, dp, hP4, hlast⟩
    have HF4 : Hid (FormAt w4 w1.heap.size) := Lib.hid (HF3.out.kept hg4 (by have := HQ.out; simp; omega))
    have HB4 : Hid (Below w.heap.size w w4) := Lib.hid (below_gb HB3.out hg4 HB3.out.size (by have := HQ.out; have := HB2s.out; omega))
    have hv : DVal ds dp m 2 := hP4.val.cross (by have h1 := HS.out; rw [HPK.out.2, ← Nat.mul_assoc] at h1; omega) (Nat.pow_pos (by decide))
    have HV := Lib.hid (And.intro hP4.digs (And.intro hP4.first (And.intro hlast (And.intro hP4.ne hv))))
    have HP4 := Lib.hid hP4
    have hpl := hP4.len
    have hpd := hP4.dple
    have HSR := Lib.hid (HSO.out D1 ds dp w4 hP4.dec hP4.digs hP4.first hlast hv (by omega) (by omega))
    have hpr := half_prec hP4.digs hlast hP4.ne hv
    have HPR := Lib.hid hpr
    clear hg4 hP4 hlast hv HF3 HB3 HQ f0 f1 f2 hpr
    obtain ⟨f0, f1, f2⟩ := HF4.out.cells
    go_wp2_with fail
    refine HSR.out.mono ?_
    rintro e w5 ⟨rfl, hb5⟩
    have HD5 := Lib.hid (HP4.out.dec.kept hb5)
    have HB5 := Lib.hid (HB4.out.trans (hb5.mono HB4.out.size))
    clear hb5 f0 f1 f2 HSR HB4 HF4 HP4
    obtain ⟨a, c, c0, c1, -⟩ := HD5.out.open
    have HT : Hid (∀ wx, DecAt wx D1 ds dp → Calls Tryz.prog 205 #[.pointer (some ⟨D1, 0, none⟩), .int .i64 (max ((ds.length : Int) - (dp : Int)) 0)] wx fun e w' => e = .returned (.string (textB (textL ds dp (m % 2)))) ∧ Below wx.heap.size wx w') := Lib.hid (fun wx h => by
      have := text_any D1 ds dp (m % 2) wx h HV.out.1 (by omega) (by omega)
      rwa [show ((m % 2 : Nat) : Int) = max ((ds.length : Int) - (dp : Int)) 0 by rcases HPR.out with ⟨h1, h2⟩ | ⟨h1, h2⟩ <;> rw [h2, Int.max_def] <;> split <;> omega] at this)
    go_wp2_with fail
    go_quiet (fail)
    go_wp2_with fail
    refine (HT.out _ (HD5.out.drewN nq)).mono ?_
    rintro e w6 ⟨rfl, hb6⟩
    have HB6 : Hid (Below w.heap.size w w6) := Lib.hid (HB5.out.trans (show Below w.heap.size w5 w6 from (show Below w5.heap.size w5 w6 from ⟨hb6.os, hb6.tape, hb6.output, hb6.size, hb6.block⟩).mono HB5.out.size))
    clear hb6 HT
    have hsz := textL_size ds dp (m % 2) 100 (by omega) (by omega)
    obtain ⟨tx, htx⟩ : ∃ tx, tx = textB (textL ds dp (m % 2)) := ⟨_, rfl⟩
    rw [← htx] at hsz ⊢
    have HTX := Lib.hid (And.intro htx.symm (text_half HV.out.1 HV.out.2.1 HV.out.2.2.1 HV.out.2.2.2.1 HV.out.2.2.2.2))
    clear htx
    have hsz2 : ¬ (9223372036854775807 : Int) < (tx.size : Int) := by omega
    go_wp2_with fail
    go_ret
    refine ⟨?_, HB6.out⟩
    unfold numTxt
    rw [List.append_assoc, ← HTX.out.2, textB_append, HTX.out.1]
    rfl)
end Go.Proofs.YtjpcdbopioblaaaGreatDoor

/- A half compared with the bounds that the JSON encoder asks for; the greater and the lesser of two doubles. No program in sight. -/
namespace Go.Proofs.YtjpcdbopioblaaaGreatDoor
open Ieee

/-- The bits of a half: h of them. -/
def halfBits (h : Int) : Nat := Ieee.double.write (.number (decide (h < 0)) h.natAbs (-1))
theorem half_word {h : Int} (h0 : h ≠ 0) (h1 : -9007199254740992 < h) (h2 : h < 9007199254740992) : halfBits h = (h.natAbs.log2 + 1021) * 4503599627370496 + sig h.natAbs + (if h < 0 then 9223372036854775808 else 0) := by
  unfold halfBits
  rw [half_write h h0 h1 h2]
  unfold Ieee.Format.word rung
  have sw : Ieee.double.signWeight = 9223372036854775808 := by decide
  have e : ((-1 : Int) + h.natAbs.log2 + 1022).toNat = h.natAbs.log2 + 1021 := by omega
  rw [sw, e]
  by_cases hn : h < 0
  · simp [hn, Nat.add_comm]
  · simp [hn]
theorem half_read (h : Int) (h0 : h ≠ 0) (h1 : -9007199254740992 < h) (h2 : h < 9007199254740992) : double.read (halfBits h) = .number (decide (h < 0)) (sig h.natAbs) (h.natAbs.log2 - 53) := by
  have hl := log2_le h.natAbs (by omega)
  unfold halfBits
  rw [half_write h h0 h1 h2, read_rung _ _ _ (by omega) (by omega) (by omega) (by omega)]
  congr 1
  omega
theorem half_order_same (h : Int) (h0 : h ≠ 0) (h1 : -9007199254740992 < h) (h2 : h < 9007199254740992) : double.order (halfBits h) (halfBits h) = some .eq := by
  unfold Format.order
  rw [half_read h h0 h1 h2]
  show some (compare _ _) = _
  simp
theorem shl_ge (c n k : Nat) (h : k ≤ n) : c * 2 ^ k ≤ c <<< n := by rw [Nat.shiftLeft_eq]; exact Nat.mul_le_mul_left _ (Nat.pow_le_pow_right (by decide) h)
theorem half_gt_low (h : Int) (h0 : h ≠ 0) (h1 : -9007199254740992 < h) (h2 : h < 9007199254740992) : double.order (halfBits h) 18442240474082181119 = some .gt := by
  have hl := log2_le h.natAbs (by omega)
  unfold Format.order
  have hc : double.read 18442240474082181119 = .number true 9007199254740991 971 := by decide +kernel
  have hs := sig_bounds h.natAbs (by omega) (by omega)
  rw [half_read h h0 h1 h2, hc, order_num]
  generalize sig h.natAbs = S at hs
  generalize h.natAbs.log2 = L at hl
  have hmin : min ((L : Int) - 53) 971 = L - 53 := by omega
  rw [hmin]
  have e1 : ((L : Int) - 53 - (L - 53)).toNat = 0 := by omega
  rw [e1]
  have hb := shl_ge 9007199254740991 ((971 : Int) - (L - 53)).toNat 1 (by omega)
  have p53 : (2 : Nat) ^ 53 = 9007199254740992 := by decide
  rw [p53] at hs
  congr 1
  refine cmp_gt _ _ ?_
  unfold signed
  generalize 9007199254740991 <<< ((971 : Int) - (L - 53)).toNat = B at hb
  rw [Nat.shiftLeft_zero]
  have hb2 := hs.2
  simp only [if_true]
  split <;> omega
theorem half_lt_high (h : Int) (h0 : h ≠ 0) (h1 : -9007199254740992 < h) (h2 : h < 9007199254740992) : double.order (halfBits h) 9218868437227405311 = some .lt := by
  have hl := log2_le h.natAbs (by omega)
  unfold Format.order
  have hc : double.read 9218868437227405311 = .number false 9007199254740991 971 := by decide +kernel
  have hs := sig_bounds h.natAbs (by omega) (by omega)
  rw [half_read h h0 h1 h2, hc, order_num]
  generalize sig h.natAbs = S at hs
  generalize h.natAbs.log2 = L at hl
  have hmin : min ((L : Int) - 53) 971 = L - 53 := by omega
  rw [hmin]
  have e1 : ((L : Int) - 53 - (L - 53)).toNat = 0 := by omega
  rw [e1]
  have hb := shl_ge 9007199254740991 ((971 : Int) - (L - 53)).toNat 1 (by omega)
  have p53 : (2 : Nat) ^ 53 = 9007199254740992 := by decide
  rw [p53] at hs
  congr 1
  refine cmp_lt _ _ ?_
  unfold signed
  generalize 9007199254740991 <<< ((971 : Int) - (L - 53)).toNat = B at hb
  rw [Nat.shiftLeft_zero]
  have hb2 := hs.2
  simp only [Bool.false_eq_true, if_false]
  split <;> omega
theorem half_lt_e21 (h : Int) (h0 : 0 < h) (h2 : h < 9007199254740992) : double.order (halfBits h) 4921056587992461136 = some .lt := by
  have hl := log2_le h.natAbs (by omega)
  unfold Format.order
  have hc : double.read 4921056587992461136 = .number false 7629394531250000 17 := by decide +kernel
  have hs := sig_bounds h.natAbs (by omega) (by omega)
  rw [half_read h (by omega) (by omega) h2, hc, order_num]
  generalize sig h.natAbs = S at hs
  generalize h.natAbs.log2 = L at hl
  have hmin : min ((L : Int) - 53) 17 = L - 53 := by omega
  rw [hmin]
  have e1 : ((L : Int) - 53 - (L - 53)).toNat = 0 := by omega
  rw [e1]
  have hb := shl_ge 7629394531250000 ((17 : Int) - (L - 53)).toNat 1 (by omega)
  have p53 : (2 : Nat) ^ 53 = 9007199254740992 := by decide
  rw [p53] at hs
  congr 1
  refine cmp_lt _ _ ?_
  unfold signed
  generalize 7629394531250000 <<< ((17 : Int) - (L - 53)).toNat = B at hb
  rw [Nat.shiftLeft_zero]
  have hb2 := hs.2
  simp only [Bool.false_eq_true, if_false]
  split <;> omega
theorem half_gt_e6 (h : Int) (h0 : 0 < h) (h2 : h < 9007199254740992) : double.order (halfBits h) 4517329193108106637 = some .gt := by
  have hl := log2_le h.natAbs (by omega)
  unfold Format.order
  have hc : double.read 4517329193108106637 = .number false 4722366482869645 (-72) := by decide +kernel
  have hs := sig_bounds h.natAbs (by omega) (by omega)
  rw [half_read h (by omega) (by omega) h2, hc, order_num]
  generalize sig h.natAbs = S at hs
  generalize h.natAbs.log2 = L at hl
  have hmin : min ((L : Int) - 53) (-72) = -72 := by omega
  rw [hmin]
  have e1 : ((-72 : Int) - -72).toNat = 0 := by omega
  rw [e1]
  have hb := shl_ge S ((L : Int) - 53 - -72).toNat 1 (by omega)
  have p52 : (2 : Nat) ^ 52 = 4503599627370496 := by decide
  rw [p52] at hs
  congr 1
  refine cmp_gt _ _ ?_
  unfold signed
  generalize S <<< ((L : Int) - 53 - -72).toNat = B at hb
  rw [Nat.shiftLeft_zero]
  have hb2 := hs.1
  have hd : decide (h < 0) = false := by simp; omega
  rw [hd]
  simp only [Bool.false_eq_true, if_false]
  omega
theorem half_gt_0 (h : Int) (h0 : 0 < h) (h2 : h < 9007199254740992) : double.order (halfBits h) 0 = some .gt := by
  have hl := log2_le h.natAbs (by omega)
  unfold Format.order
  have hc : double.read 0 = .number false 0 (-1074) := by decide +kernel
  have hs := sig_bounds h.natAbs (by omega) (by omega)
  rw [half_read h (by omega) (by omega) h2, hc, order_num]
  generalize sig h.natAbs = S at hs
  generalize h.natAbs.log2 = L at hl
  have hmin : min ((L : Int) - 53) (-1074) = -1074 := by omega
  rw [hmin]
  have hb := shl_ge S ((L : Int) - 53 - -1074).toNat 1 (by omega)
  have p52 : (2 : Nat) ^ 52 = 4503599627370496 := by decide
  rw [p52] at hs
  congr 1
  refine cmp_gt _ _ ?_
  unfold signed
  generalize S <<< ((L : Int) - 53 - -1074).toNat = B at hb
  have hb2 := hs.1
  have hd : decide (h < 0) = false := by simp; omega
  have e0 : (0 : Nat) <<< ((-1074 : Int) - -1074).toNat = 0 := by rw [Nat.shiftLeft_eq, Nat.zero_mul]
  rw [hd, e0]
  simp only [Bool.false_eq_true, if_false]
  omega
/-- The sign struck. -/
theorem half_abs (h : Int) (h0 : h ≠ 0) (h1 : -9007199254740992 < h) (h2 : h < 9007199254740992) : bits .andNot .u64 (halfBits h : Int) 9223372036854775808 = (halfBits (h.natAbs : Int) : Int) := by
  have e1 := half_word h0 h1 h2
  have e2 := half_word (h := (h.natAbs : Int)) (by omega) (by omega) (by omega)
  have hl := log2_le h.natAbs (by omega)
  have hs := sig_bounds h.natAbs (by omega) (by omega)
  have p52 : (2 : Nat) ^ 52 = 4503599627370496 := by decide
  have p53 : (2 : Nat) ^ 53 = 9007199254740992 := by decide
  rw [p52, p53] at hs
  rw [Int.natAbs_natCast, if_neg (by omega)] at e2
  rw [e2]
  generalize sig h.natAbs = S at *
  generalize h.natAbs.log2 = L at *
  generalize halfBits h = B at *
  have hB : B < 18446744073709551616 := by rw [e1]; split <;> omega
  refine (u64_andNot_nat B 9223372036854775808 hB (by omega)).trans ?_
  have h3 : B &&& (18446744073709551615 - 9223372036854775808) = B % 9223372036854775808 := Nat.and_two_pow_sub_one_eq_mod B 63
  rw [h3, e1]
  split <;> omega
theorem run_max_gt {P : Program} (ts : Array TypeId) (t : TypeId) (k : FloatKind) (x y : Nat) (w : World) (h : k.format.order x y = some .gt) : (Builtin.max_ ts t #[.float k x, .float k y]).run P w = .ok (.float k x) w := by
  simp [Builtin.max_, Builtin.max2, h]
theorem run_min_lt {P : Program} (ts : Array TypeId) (t : TypeId) (k : FloatKind) (x y : Nat) (w : World) (h : k.format.order x y = some .lt) : (Builtin.min_ ts t #[.float k x, .float k y]).run P w = .ok (.float k x) w := by
  simp [Builtin.min_, Builtin.min2, h]
end Go.Proofs.YtjpcdbopioblaaaGreatDoor

/- 'FormatFloat' at every half below 2^52: its digits. -/
namespace Go.Proofs.YtjpcdbopioblaaaGreatDoor
open Go.RowKit

theorem bits_and_i64_natF (a b : Nat) (ha : a < 9223372036854775808) (hb : b < 9223372036854775808) : bits .and .i64 (a : Int) (b : Int) = ((a &&& b : Nat) : Int) := by
  have hx : a &&& b < 2 ^ 63 := Nat.and_lt_two_pow _ (by omega)
  have h1 : (BitVec.ofInt 64 (a : Int)).toNat = a := by
    rw [BitVec.ofInt_natCast, BitVec.toNat_ofNat]; exact Nat.mod_eq_of_lt (by omega)
  have h2 : (BitVec.ofInt 64 (b : Int)).toNat = b := by
    rw [BitVec.ofInt_natCast, BitVec.toNat_ofNat]; exact Nat.mod_eq_of_lt (by omega)
  show IntKind.i64.wrap ((BitVec.ofInt 64 (a : Int) &&& BitVec.ofInt 64 (b : Int)).toNat : Int) = _
  rw [BitVec.toNat_and, h1, h2]
  generalize a &&& b = c at hx
  exact IntWalk.i64_in _ (by omega)
theorem bit_sign (B L s : Nat) (h : Int) (hw : B = (L + 1021) * 4503599627370496 + s + (if h < 0 then 9223372036854775808 else 0)) (hL : L ≤ 52) (hs : 4503599627370496 ≤ s ∧ s < 9007199254740992) : ((B : Int) / 9223372036854775808 != 0) = decide (h < 0) := by
  have e : (B : Int) / 9223372036854775808 = if h < 0 then 1 else 0 := by
    rw [hw]
    split <;> omega
  rw [e]
  by_cases hn : h < 0
  · simp [hn]
  · simp [hn]
theorem bit_exp (B L s : Nat) (h : Int) (hw : B = (L + 1021) * 4503599627370496 + s + (if h < 0 then 9223372036854775808 else 0)) (hL : L ≤ 52) (hs : 4503599627370496 ≤ s ∧ s < 9007199254740992) : bits .and .i64 (wrap64 ((B : Int) / 4503599627370496)) 2047 = L + 1022 := by
  have e : (B : Int) / 4503599627370496 = ((L + 1022 + (if h < 0 then 2048 else 0) : Nat) : Int) := by rw [hw]; split <;> omega
  have hb : L + 1022 + (if h < 0 then 2048 else 0) < 5000 := by split <;> omega
  have hc : (L + 1022 + (if h < 0 then 2048 else 0)) % 2048 = L + 1022 := by split <;> omega
  rw [e]
  generalize L + 1022 + (if h < 0 then 2048 else 0) = q at hb hc
  have h1 : wrap64 (q : Int) = (q : Int) := IntWalk.wrap64_in _ (by omega)
  have h2 := bits_and_i64_natF q 2047 (by omega) (by omega)
  have h3 : q &&& 2047 = q % 2048 := Nat.and_two_pow_sub_one_eq_mod q 11
  rw [h1]
  refine h2.trans ?_
  rw [h3, hc]
  omega
theorem and_frac (B : Nat) : B &&& 4503599627370495 = B % 4503599627370496 := Nat.and_two_pow_sub_one_eq_mod B 52
theorem bit_frac (B L s : Nat) (h : Int) (hw : B = (L + 1021) * 4503599627370496 + s + (if h < 0 then 9223372036854775808 else 0)) (hL : L ≤ 52) (hs : 4503599627370496 ≤ s ∧ s < 9007199254740992) : bits .and .u64 (B : Int) 4503599627370495 = (s : Int) - 4503599627370496 := by
  have hb : B < 18446744073709551616 := by rw [hw]; split <;> omega
  have hc : B % 4503599627370496 = s - 4503599627370496 := by rw [hw]; split <;> omega
  clear hw
  refine (bits_and_u64_nat B 4503599627370495 hb (by omega)).trans ?_
  rw [and_frac, hc]
  omega
theorem or_top (x : Nat) (h : x < 4503599627370496) : x ||| 4503599627370496 = x + 4503599627370496 := by
  have := Nat.two_pow_add_eq_or_of_lt (i := 52) (b := x) h 1
  rw [Nat.or_comm, Nat.add_comm]
  simpa using this.symm
theorem bit_top (s : Nat) (hs : 4503599627370496 ≤ s ∧ s < 9007199254740992) : bits .or .u64 ((s : Int) - 4503599627370496) 4503599627370496 = (s : Int) := by
  obtain ⟨x, rfl⟩ : ∃ x, s = x + 4503599627370496 := ⟨s - 4503599627370496, by omega⟩
  have e : ((x + 4503599627370496 : Nat) : Int) - 4503599627370496 = (x : Int) := by omega
  rw [e]
  refine (bits_or_u64_nat x 4503599627370496 (by omega) (by omega)).trans ?_
  rw [or_top x (by omega)]
theorem formatFloat_nz (h : Int) (w : World) (h0 : h ≠ 0) (h1 : -9007199254740992 < h) (h2 : h < 9007199254740992) :
    Calls Tryz.prog 178 #[.float .f64 (halfBits h), .int .u8 102, .int .i64 (-1), .int .i64 64] w fun e w' => e = .returned (.string (textB (numTxt (decide (h < 0)) h.natAbs))) ∧ Below w.heap.size w w' := by
  have hw := half_word h0 h1 h2
  have hm : 0 < h.natAbs := by omega
  have hm2 : h.natAbs < 2 ^ 53 := by omega
  have hL := log2_le h.natAbs hm2
  have hs := sig_bounds h.natAbs hm hm2
  have hpow : 4 * sig h.natAbs = h.natAbs * 2 ^ (54 - h.natAbs.log2) := by
    unfold sig
    rw [show 54 - h.natAbs.log2 = (52 - h.natAbs.log2) + 2 by omega, Nat.pow_add, show (2 : Nat) ^ 2 = 4 from rfl]
    generalize 2 ^ (52 - h.natAbs.log2) = q
    rw [Nat.mul_comm 4, Nat.mul_assoc]
  generalize sig h.natAbs = s at *
  generalize hLL : h.natAbs.log2 = L at *
  generalize h.natAbs = m at *
  generalize hB : halfBits h = B at *
  have p52 : (2 : Nat) ^ 52 = 4503599627370496 := by decide
  have p52m : (4503599627370495 : Nat) = 2 ^ 52 - 1 := by rw [p52]
  have p53 : (2 : Nat) ^ 53 = 9007199254740992 := by decide
  rw [p52, p53] at hs
  have hq : B / 4503599627370496 = L + 1022 + (if h < 0 then 2048 else 0) := by rw [hw]; split <;> omega
  refine formatFloat_half (decide (h < 0)) B m s (54 - L) (L + 1022) w (by omega) hpow (by omega) hs.1 hs.2 ?_ ?_ ?_ ?_
  · exact bit_sign B L s h hw hL hs
  · exact bit_exp B L s h hw hL hs
  · exact bit_frac B L s h hw hL hs
  · exact bit_top s hs
set_option maxRecDepth 100000 in
set_option maxHeartbeats 1600000 in
theorem short_zero (b : Nat) (x : Int) (w : World) :
    Calls Tryz.prog 202 #[.pointer (some ⟨b, 0, none⟩), .int .u64 0, .int .i64 x, .agg #[.int .i64 52, .int .i64 11, .int .i64 (-1023)]] w fun e w' => e = .returned (.pointer (some ⟨b, 0, none⟩)) ∧ Below w.heap.size w w' := by
  go_enter Tryz.func202, Tryz.ntmps202
  go_wp2_with fail
  go_ret
  exact ⟨rfl, (Below.refl _ w).alloc (Nat.le_refl _) _⟩
set_option maxRecDepth 100000 in
set_option maxHeartbeats 3200000 in
theorem formatFloat_zero (w : World) :
    Calls Tryz.prog 178 #[.float .f64 0, .int .u8 102, .int .i64 (-1), .int .i64 64] w fun e w' => e = .returned (.string (textB [48])) ∧ Below w.heap.size w w' := by
  have hx := fun W => f64bits_run 0 W
  simp only [Int.ofNat_zero, Int.natCast_zero] at hx
  have hbE : bits .and .i64 0 2047 = 0 := by decide
  have hbM : bits .and .u64 0 4503599627370495 = 0 := by decide
  go_enter Tryz.func178, Tryz.ntmps178
  go_wp2_with fail
  refine (formOf_any _).mono ?_
  rintro e w1 ⟨rfl, hb1⟩
  have HB1 : Hid (∀ o n, Below w.heap.size w ((w1.alloc o).drewN n)) := Lib.hid fun o n => by
    have h := hb1.alloc hb1.size o
    exact ⟨h.os, h.tape, h.output, h.size, h.block⟩
  have HFF : Hid (∀ n, FormAt ((w1.alloc (.cells #[.int .i64 52, .int .i64 11, .int .i64 (-1023)] 233)).drewN n) w1.heap.size) := Lib.hid fun n => heap_alloc_new w1 _
  have HF1 := Lib.hid hb1.size
  clear hb1
  go_wp2_with fail
  go_quiet (fail)
  go_wp2_with fail
  have HB2 := Lib.hid (HB1.out (.cells #[.int .i64 52, .int .i64 11, .int .i64 (-1023)] 233) nq)
  have HF2 := Lib.hid (HFF.out nq)
  clear HB1 HFF hx hbE hbM
  generalize World.drewN _ nq = w2 at *
  obtain ⟨f0, f1, f2⟩ := HF2.out.cells
  refine (newDecimal_any 0 _ (by decide)).mono ?_
  rintro e w3 ⟨o1, p1, D1, rfl, hD1, hdec1, hb3, hz, -⟩
  obtain ⟨rfl, rfl⟩ := hz rfl
  have HF3 : Hid (FormAt w3 w1.heap.size) := Lib.hid (HF2.out.below hb3)
  have HB3 : Hid (Below w.heap.size w w3) := Lib.hid (HB2.out.trans (hb3.mono HB2.out.size))
  have HQ := Lib.hid (And.intro hdec1 (And.intro hD1 (lt_of_block' HF2.out)))
  have HB2s := Lib.hid HB2.out.size
  clear hdec1 hb3 hD1 HF2 HB2 f0 f1 f2
  obtain ⟨f0, f1, f2⟩ := HF3.out.cells
  have HSH := Lib.hid (shift_nil D1 1074 w3 HQ.out.1 (by decide))
  go_wp2_with fail
  refine HSH.out.mono ?_
  rintro e w4 ⟨rfl, hd4, hg4⟩
  have HF4 : Hid (FormAt w4 w1.heap.size) := Lib.hid (HF3.out.kept hg4 (by have := HQ.out; simp; omega))
  have HB4 : Hid (Below w.heap.size w w4) := Lib.hid (below_gb HB3.out hg4 HB3.out.size (by have := HQ.out; have := HB2s.out; omega))
  have HD4 := Lib.hid hd4
  clear hg4 hd4 HF3 HB3 HQ f0 f1 f2 HSH
  obtain ⟨f0, f1, f2⟩ := HF4.out.cells
  go_wp2_with fail
  refine (short_zero D1 _ w4).mono ?_
  rintro e w5 ⟨rfl, hb5⟩
  have HD5 := Lib.hid (HD4.out.kept hb5)
  have HB5 := Lib.hid (HB4.out.trans (hb5.mono HB4.out.size))
  clear hb5 f0 f1 f2 HB4 HF4 HD4
  obtain ⟨a, c, c0, c1, -⟩ := HD5.out.open
  simp only [List.length_nil] at c0
  go_wp2_with fail
  go_quiet (fail)
  go_wp2_with fail
  refine (text_any D1 [] 0 0 _ (HD5.out.drewN nq) (fun d hd => by simp at hd) (by decide) (by decide)).mono ?_
  rintro e w6 ⟨rfl, hb6⟩
  have HB6 : Hid (Below w.heap.size w w6) := Lib.hid (HB5.out.trans (show Below w.heap.size w5 w6 from (show Below w5.heap.size w5 w6 from ⟨hb6.os, hb6.tape, hb6.output, hb6.size, hb6.block⟩).mono HB5.out.size))
  clear hb6
  go_wp2_with fail
  go_ret
  exact ⟨rfl, HB6.out⟩
theorem formatFloat_any (h : Int) (w : World) (h1 : -9007199254740992 < h) (h2 : h < 9007199254740992) :
    Calls Tryz.prog 178 #[.float .f64 (halfBits h), .int .u8 102, .int .i64 (-1), .int .i64 64] w fun e w' => e = .returned (.string (textB (numTxt (decide (h < 0)) h.natAbs))) ∧ Below w.heap.size w w' := by
  by_cases h0 : h = 0
  · subst h0
    have e1 : halfBits 0 = 0 := by decide +kernel
    have e2 : numTxt (decide ((0 : Int) < 0)) (0 : Int).natAbs = [48] := by
      unfold numTxt dig
      simp
    rw [e1, e2]
    exact formatFloat_zero w
  · exact formatFloat_nz h w h0 h1 h2
end Go.Proofs.YtjpcdbopioblaaaGreatDoor

/- The JSON encoder's encodeFloat64 walked at a half. -/
namespace Go.Proofs.YtjpcdbopioblaaaGreatDoor
open Go.RowKit

theorem frombits_run (B : Nat) (W : World) : (callFunc 176 #[.int .u64 B]).run Tryz.prog W = .ok (.value (.float .f64 B)) W := by
  rw [run_callFunc_extern Tryz.func176 (by kernel_rfl) (by kernel_rfl) (by kernel_rfl) (e := Extern.MathFloatBits.float64frombits) (by kernel_rfl)]
  rfl
theorem isNaN_any (F : Nat) (w : World) (h : FloatKind.f64.format.order F F = some .eq) : Calls Tryz.prog 157 #[.float .f64 F] w fun e w' => e = .returned (.bool false) ∧ w = w' := by
  go_enter Tryz.func157, Tryz.ntmps157
  go_wp2_with fail
  go_ret
  exact ⟨rfl, rfl⟩
theorem abs_any (F A : Nat) (w : World) (h : bits .andNot .u64 (F : Int) 9223372036854775808 = (A : Int)) : Calls Tryz.prog 158 #[.float .f64 F] w fun e w' => e = .returned (.float .f64 A) ∧ w = w' := by
  have h1 := fun W => f64bits_run F W
  have h2 := fun W => frombits_run A W
  go_enter Tryz.func158, Tryz.ntmps158
  go_wp2_with fail
  go_ret
  exact ⟨rfl, rfl⟩
/-- What is stored in a row of cells. -/
theorem setCells_row {T : TypeId} {b : Nat} : ∀ (vs : List Value) (o : Nat) (W : World) (cs : Array Value), W.heap[b]? = some (.cells cs T (0, 0)) → o + vs.length ≤ cs.size →
    ∃ cs' : Array Value, (W.setCells b o vs).heap[b]? = some (.cells cs' T (0, 0)) ∧ cs'.size = cs.size ∧ (∀ i, i < o → cs'[i]? = cs[i]?) ∧ ∀ j (h : j < vs.length), cs'[o + j]? = some vs[j]
  | [], o, W, cs, h, _ => ⟨cs, h, rfl, fun _ _ => rfl, fun j hj => absurd hj (by simp)⟩
  | v :: r, o, W, cs, h, hs => by
    simp only [List.length_cons] at hs
    have h1 := Lib.heap_setCell_same h (i := o) v
    obtain ⟨cs', h2, h3, h4, h5⟩ := setCells_row r (o + 1) (W.setCell ⟨b, o, none⟩ v) (cs.setIfInBounds o v) (by simpa using h1) (by simp; omega)
    refine ⟨cs', h2, by simpa using h3, fun i hi => ?_, fun j hj => ?_⟩
    · rw [h4 i (by omega), Array.getElem?_setIfInBounds_ne (by omega)]
    · cases j with
      | zero =>
        rw [Nat.add_zero, h4 o (by omega)]
        simp [Array.getElem?_setIfInBounds]
        omega
      | succ j =>
        have := h5 j (by simpa using hj)
        rw [show o + (j + 1) = o + 1 + j by omega, this]
        rfl
theorem setCells_gb {b : Nat} : ∀ (vs : List Value) (o : Nat) (W : World), W.grownBy (W.setCells b o vs) (some b)
  | [], _, W => World.grownBy.refl W _
  | v :: r, o, W => gb_trans (gb_set (World.grownBy.refl W (some b)) o v) (setCells_gb r (o + 1) _)
/-- The text of a half as bytes. -/
def numBytes (h : Int) : List UInt8 := (numTxt (decide (h < 0)) h.natAbs).map UInt8.ofNat
theorem numBytes_len (h : Int) (h1 : -9007199254740992 < h) (h2 : h < 9007199254740992) : (numBytes h).length ≤ 24 := by
  unfold numBytes numTxt
  have := dig_len 19 (h.natAbs / 2) (by omega)
  rw [List.length_map, List.length_append, List.length_append, List.length_map]
  have e1 : (if decide (h < 0) = true then [45] else ([] : List Nat)).length ≤ 1 := by split <;> simp
  have e2 : (if h.natAbs % 2 = 1 then [46, 53] else ([] : List Nat)).length ≤ 2 := by split <;> simp
  omega
/-- What 'AppendFloat' onto an encoder's buffer leaves. -/
def AppPost (eb : Nat) (t : List UInt8) (cs : Array Value) (w : World) (e : Ending) (w' : World) : Prop := ∃ cs' : Array Value, e = .returned (.slice (some ⟨eb, 1, none⟩) t.length 64) ∧ w'.heap[eb]? = some (.cells cs' 105 (0, 0)) ∧ cs'.size = 65 ∧ cs'[0]? = cs[0]? ∧ (∀ j (h : j < t.length), cs'[1 + j]? = some (.int .u8 (t[j].toNat : Nat))) ∧ w.grownBy w' (some eb)

theorem app_fin {eb : Nat} {t : ByteArray} {cs : Array Value} {w w1 : World} (hb : Below w.heap.size w w1) (he : w.heap[eb]? = some (.cells cs 105 (0, 0))) (hz : cs.size = 65) (ht : t.size ≤ 64) (n : Nat) (hn : n = t.size) :
    AppPost eb t.data.toList cs w (.returned (.slice (some ⟨eb, 1, none⟩) n 64)) (w1.setCells eb 1 (byteCells t)) := by
  subst hn
  have he1 := (hb.block eb (Array.getElem?_eq_some_iff.1 he).1).trans he
  have hl : (byteCells t).length = t.data.toList.length := by rw [byteCells_length, Array.length_toList]; rfl
  have hl2 : t.data.toList.length = t.size := Array.length_toList
  obtain ⟨cs', h1, h2, h3, h4⟩ := setCells_row (byteCells t) 1 w1 cs he1 (by rw [hl, hl2, hz]; omega)
  refine ⟨cs', by rw [hl2], h1, h2.trans hz, h3 0 (by decide), fun j hj => ?_, gb_trans ⟨hb.os, hb.tape, hb.output, hb.size, fun k hk _ => hb.block k hk⟩ (setCells_gb _ _ _)⟩
  have := h4 j (by rw [hl]; exact hj)
  rw [this]
  simp [byteCells]

set_option maxRecDepth 100000 in
set_option maxHeartbeats 1600000 in
theorem appendFloat_any (h : Int) (eb : Nat) (cs : Array Value) (w : World) (h1 : -9007199254740992 < h) (h2 : h < 9007199254740992) (he : w.heap[eb]? = some (.cells cs 105 (0, 0))) (hz : cs.size = 65) :
    Calls Tryz.prog 159 #[.slice (some ⟨eb, 1, none⟩) 0 64, .float .f64 (halfBits h), .int .u8 102, .int .i64 (-1), .int .i64 64] w (AppPost eb (numBytes h) cs w) := by
  have HF := Lib.hid (fun wx => formatFloat_any h wx h1 h2)
  have hlen := numBytes_len h h1 h2
  have hsz : (textB (numTxt (decide (h < 0)) h.natAbs)).size ≤ 64 := by
    rw [textB_size]
    unfold numBytes at hlen
    simp at hlen
    omega
  have hdt : (textB (numTxt (decide (h < 0)) h.natAbs)).data.toList = numBytes h := rfl
  have HE := Lib.hid (And.intro he hz)
  rw [← hdt]
  generalize textB (numTxt (decide (h < 0)) h.natAbs) = tx at *
  generalize halfBits h = F at *
  clear he hz hdt hlen
  obtain ⟨ti, hti, hz0, hz1, hz2⟩ := byteInfo
  go_enter Tryz.func159, Tryz.ntmps159
  go_wp2_with fail
  refine (HF.out _).mono ?_
  rintro e w1 ⟨rfl, hb⟩
  have HB := Lib.hid hb
  have he1 := (hb.block eb (Array.getElem?_eq_some_iff.1 HE.out.1).1).trans HE.out.1
  have hcl : (byteCells tx).length = tx.size := byteCells_length tx
  have HC : Hid (∀ j, j < (byteCells tx).length → (w1.cell? ⟨eb, 1 + 0 * ti.size + j, none⟩).isSome = true) := Lib.hid fun j hj => by
    have h3 : 1 + 0 * ti.size + j < cs.size := by rw [HE.out.2]; omega
    simp only [World.cell?, he1]
    rw [Array.getElem?_eq_getElem h3]
    rfl
  have HFr : Hid (∀ j, j < (byteCells tx).length → w1.frozen? ⟨eb, 1 + 0 * ti.size + j, none⟩ = false) := Lib.hid fun j hj => by
    simp [World.frozen?, he1]
  have HSR : Hid (∀ wx, Src Tryz.prog ti.size 9 (.string tx) tx.size (byteCells tx) wx) := Lib.hid fun wx => by rw [hz1]; exact Src.ofString wx Tryz.underlying9 tx
  clear hb he1
  go_wp2_with (at_builtin; refine wpList_append_room_src _ rfl _ _ 58 9 rfl 5 ti Tryz.underlying58 hti eb 1 0 64 rfl (.string tx) rfl tx.size (byteCells tx) (HSR.out _) (by omega) HC.out HFr.out ?_)
  go_ret
  have e1 : 1 + 0 * ti.size = 1 := by omega
  have e2 : 0 + tx.size = tx.size := by omega
  first
    | (simp only [e1, e2]; exact app_fin HB.out HE.out.1 HE.out.2 hsz _ rfl)
    | (simp only [Nat.zero_mul, Nat.add_zero, Nat.zero_add]; exact app_fin HB.out HE.out.1 HE.out.2 hsz _ rfl)
    | exact app_fin HB.out HE.out.1 HE.out.2 hsz _ rfl
end Go.Proofs.YtjpcdbopioblaaaGreatDoor

/- Integers in the encoder: FormatInt, AppendInt. -/
namespace Go.Proofs.YtjpcdbopioblaaaGreatDoor
open Go.RowKit

def intText (n : Int) : List UInt8 := (if n < 0 then [45] else []) ++ digText n.natAbs
theorem wrap_neg {n : Int} (h1 : -9223372036854775808 ≤ n) (hn : n < 0) : IntKind.u64.wrap (-IntKind.u64.wrap n) = (n.natAbs : Nat) := by
  unfold IntKind.wrap IntKind.bits IntKind.signed
  simp only [Bool.false_and, Bool.false_eq_true, if_false]
  omega
theorem intText_len {n : Int} (h1 : -9223372036854775808 ≤ n) (h2 : n ≤ 9223372036854775807) : (intText n).length ≤ 21 := by
  have h3 := dig_len 19 n.natAbs (by omega)
  unfold intText digText
  rw [List.length_append, List.length_map]
  split <;> simp <;> omega
set_option maxRecDepth 100000 in
theorem formatInt_any (n : Int) (w : World) (h1 : -9223372036854775808 ≤ n) (h2 : n ≤ 9223372036854775807) :
    Calls Tryz.prog 156 #[.int .i64 n, .int .i64 10] w fun e w' => e = .returned (.string ⟨(intText n).toArray⟩) ∧ Below w.heap.size w w' := by
  have HF := Lib.hid (formatUint_any n.natAbs w (by omega))
  have HL := Lib.hid (dig_len 19 n.natAbs (by omega))
  by_cases hn : n < 0
  · have HW := Lib.hid (wrap_neg h1 hn)
    have HN := Lib.hid hn
    go_enter Tryz.func156, Tryz.ntmps156
    go_wp2_with fail
    rw [HW.out]
    refine HF.out.mono ?_
    rintro e w1 ⟨rfl, hb⟩
    have HB := Lib.hid hb
    have hsz : ¬ 9223372036854775807 < (⟨#[45]⟩ : ByteArray).size + (⟨(digText n.natAbs).toArray⟩ : ByteArray).size := by
      have := HL.out
      have e1 : (⟨#[45]⟩ : ByteArray).size = 1 := rfl
      have e2 : (⟨(digText n.natAbs).toArray⟩ : ByteArray).size = (dig n.natAbs).length := by
        show (digText n.natAbs).toArray.size = _
        simp [digText]
      omega
    clear hb h1 h2
    go_wp2_with fail
    go_ret
    refine ⟨?_, HB.out⟩
    have et : (⟨#[45]⟩ : ByteArray) ++ ⟨(digText n.natAbs).toArray⟩ = ⟨(intText n).toArray⟩ := by
      unfold intText
      rw [if_pos HN.out]
      apply ByteArray.ext
      simp
    rw [← et]
    rfl
  · have HN := Lib.hid hn
    have HM := Lib.hid (show (n : Int) = (n.natAbs : Nat) by omega)
    go_enter Tryz.func156, Tryz.ntmps156
    go_wp2_with fail
    refine (show Calls _ _ _ _ _ by rw [show (Value.int .u64 n) = .int .u64 (n.natAbs : Nat) by rw [← HM.out]]; exact HF.out).mono ?_
    rintro e w1 ⟨rfl, hb⟩
    have HB := Lib.hid hb
    clear hb h1 h2
    go_wp2_with fail
    go_ret
    refine ⟨?_, HB.out⟩
    unfold intText
    rw [if_neg (Int.not_lt.2 HN.out), List.nil_append]
    rfl

set_option maxRecDepth 100000 in
set_option maxHeartbeats 1600000 in
theorem appendInt_any (n : Int) (eb : Nat) (cs : Array Value) (w : World) (h1 : -9223372036854775808 ≤ n) (h2 : n ≤ 9223372036854775807) (he : w.heap[eb]? = some (.cells cs 105 (0, 0))) (hz : cs.size = 65) :
    Calls Tryz.prog 127 #[.slice (some ⟨eb, 1, none⟩) 0 64, .int .i64 n, .int .i64 10] w (AppPost eb (intText n) cs w) := by
  have HF := Lib.hid (fun wx => formatInt_any n wx h1 h2)
  have hlen := intText_len h1 h2
  have hsz : (⟨(intText n).toArray⟩ : ByteArray).size ≤ 64 := by
    show (intText n).toArray.size ≤ 64
    simp
    omega
  have hdt : (⟨(intText n).toArray⟩ : ByteArray).data.toList = intText n := rfl
  have HE := Lib.hid (And.intro he hz)
  rw [← hdt]
  generalize (⟨(intText n).toArray⟩ : ByteArray) = tx at *
  clear he hz hdt hlen h1 h2
  obtain ⟨ti, hti, hz0, hz1, hz2⟩ := byteInfo
  go_enter Tryz.func127, Tryz.ntmps127
  go_wp2_with fail
  refine (HF.out _).mono ?_
  rintro e w1 ⟨rfl, hb⟩
  have HB := Lib.hid hb
  have he1 := (hb.block eb (Array.getElem?_eq_some_iff.1 HE.out.1).1).trans HE.out.1
  have hcl : (byteCells tx).length = tx.size := byteCells_length tx
  have HC : Hid (∀ j, j < (byteCells tx).length → (w1.cell? ⟨eb, 1 + 0 * ti.size + j, none⟩).isSome = true) := Lib.hid fun j hj => by
    have h3 : 1 + 0 * ti.size + j < cs.size := by rw [HE.out.2]; omega
    simp only [World.cell?, he1]
    rw [Array.getElem?_eq_getElem h3]
    rfl
  have HFr : Hid (∀ j, j < (byteCells tx).length → w1.frozen? ⟨eb, 1 + 0 * ti.size + j, none⟩ = false) := Lib.hid fun j hj => by
    simp [World.frozen?, he1]
  have HSR : Hid (∀ wx, Src Tryz.prog ti.size 9 (.string tx) tx.size (byteCells tx) wx) := Lib.hid fun wx => by rw [hz1]; exact Src.ofString wx Tryz.underlying9 tx
  clear hb he1
  go_wp2_with (at_builtin; refine wpList_append_room_src _ rfl _ _ 58 9 rfl 5 ti Tryz.underlying58 hti eb 1 0 64 rfl (.string tx) rfl tx.size (byteCells tx) (HSR.out _) (by omega) HC.out HFr.out ?_)
  go_ret
  simp only [Nat.zero_mul, Nat.add_zero, Nat.zero_add]
  exact app_fin HB.out HE.out.1 HE.out.2 hsz _ rfl
end Go.Proofs.YtjpcdbopioblaaaGreatDoor

/-
  DERIVED: THE SHELF's CONTRACTS AT THIS DUMP, IN PLAIN WORDS (tools/lay-plain.mjs out of 'TryzShelf.lean', which tools/lay-shelf.mjs wrote): THE SAME DECLARATIONS UNDER THE SAME NAMES: 'import', 'namespace', 'open', 'def', 'theorem' AND NOTHING ELSE: no command of the shelf's: FOR A HAND-IN. Each laying: the table of numbers ('.._ren') and one theorem, a field a fact of the dump's own or the kernel's comparison; each contract: ONE APPLICATION.
-/
namespace Go.Proofs
open Go.Shelf
def Tryz.lays169_ren : Go.Shelf.Ren := ⟨fun | 169 => 192 | n => n, fun | 70 => 222 | 9 => 9 | 0 => 0 | 72 => 224 | 37 => 58 | 127 => 257 | 3 => 3 | 5 => 5 | n => n, fun | n => n⟩
theorem Tryz.lays169 : Go.Proofs.Lays.n169 Tryz.prog Tryz.lays169_ren := {
  mixed := by kernel_rfl
  f169 := Tryz.func192.trans (congrArg some (by kernel_rfl))
  t0 := Tryz.underlying0
  a0 := Tryz.isAgg0
  z0 := Tryz.sizeOf0
  v0 := Tryz.zeroValue0
  t3 := Tryz.underlying3
  a3 := Tryz.isAgg3
  z3 := Tryz.sizeOf3
  v3 := Tryz.zeroValue3
  t9 := Tryz.underlying9
  a9 := Tryz.isAgg9
  z9 := Tryz.sizeOf9
  v9 := Tryz.zeroValue9
  t37 := Tryz.underlying58
  a37 := Tryz.isAgg58
  z37 := Tryz.sizeOf58
  v37 := Tryz.zeroValue58
  t70 := Tryz.underlying222
  a70 := Tryz.isAgg222
  z70 := Tryz.sizeOf222
  v70 := Tryz.zeroValue222
  t72 := Tryz.underlying224
  a72 := Tryz.isAgg224
  z72 := Tryz.sizeOf224
  v72 := Tryz.zeroValue224
  t127 := Tryz.underlying257
  a127 := Tryz.isAgg257
  z127 := Tryz.sizeOf257
  v127 := Tryz.zeroValue257 }
theorem Tryz.Builder_Extra_169 : Builder.Extra Tryz.prog Tryz.lays169_ren := {
  sizeBuilder := by kernel_rfl
  liesBuilder := by kernel_rfl
  t5 := Tryz.underlying5
  a5 := Tryz.isAgg5
  z5 := Tryz.sizeOf5
  v5 := Tryz.zeroValue5
  infoByte := by kernel_rfl
  cellsByte := by kernel_rfl
  sizeByte := by kernel_rfl
  neB5 := by decide }
open Go.RowKit in
/-- (*strings.Builder).String: "String returns the accumulated string.": OF A BUILDER THAT HOLDS AT LEAST ONE BYTE. ✋ THE MODEL FREEZES THOSE BYTES IN THE BUFFER (unsafe.String): a later write INTO them ends the model's run without an answer; a later append BEHIND them goes on. The statement's order of evaluation is drawn: one draw. (LAID: no walk: one application.) -/
theorem Tryz.Builder_String (B b : Nat) (l : List UInt8) (w : World) (h : Lib.IsBuilder 224 5 B b (Lib.byteCells l) w) (h0 : l ≠ []) :
    Calls Tryz.prog 192 #[.pointer (some ⟨b, 0, none⟩)] w fun e w' => e = .returned (.string ⟨l.toArray⟩) ∧ Below B w w' := Any.Builder_String Tryz.lays169 Tryz.Builder_Extra_169 B b l w h h0
open Go.RowKit in
/-- (*strings.Builder).String OF A BUILDER THAT HOLDS NO BYTE: the empty string. (Its buffer is nil, or a row of which it has taken nothing yet; where that row has NO capacity the model lays one new block for unsafe.SliceData's 'some address'.) One draw. (LAID: no walk: one application.) -/
theorem Tryz.Builder_String_empty (B b : Nat) (w : World) (h : Lib.IsBuilder 224 5 B b [] w) (hBw : B ≤ w.heap.size) :
    Calls Tryz.prog 192 #[.pointer (some ⟨b, 0, none⟩)] w fun e w' => e = .returned (.string ⟨#[]⟩) ∧ Below B w w' := Any.Builder_String_empty Tryz.lays169 Tryz.Builder_Extra_169 B b w h hBw
open Go.RowKit in
/-- (*strings.Builder).String: "String returns the accumulated string.": WHATEVER THE BUILDER HOLDS. (LAID: no walk: one application.) -/
theorem Tryz.Builder_String_any (B b : Nat) (l : List UInt8) (w : World) (h : Lib.IsBuilder 224 5 B b (Lib.byteCells l) w) (hBw : B ≤ w.heap.size) :
    Calls Tryz.prog 192 #[.pointer (some ⟨b, 0, none⟩)] w fun e w' => e = .returned (.string ⟨l.toArray⟩) ∧ Below B w w' := Any.Builder_String_any Tryz.lays169 Tryz.Builder_Extra_169 B b l w h hBw
def Tryz.lays241_ren : Go.Shelf.Ren := ⟨fun | 241 => 227 | 277 => 252 | n => n, fun | 70 => 222 | 3 => 3 | 0 => 0 | 72 => 224 | 37 => 58 | 5 => 5 | n => n, fun | n => n⟩
theorem Tryz.lays241 : Go.Proofs.Lays.n241 Tryz.prog Tryz.lays241_ren := {
  mixed := by kernel_rfl
  f241 := Tryz.func227.trans (congrArg some (by kernel_rfl))
  f277 := Tryz.func252.trans (congrArg some (by kernel_rfl))
  t0 := Tryz.underlying0
  a0 := Tryz.isAgg0
  z0 := Tryz.sizeOf0
  v0 := Tryz.zeroValue0
  t3 := Tryz.underlying3
  a3 := Tryz.isAgg3
  z3 := Tryz.sizeOf3
  v3 := Tryz.zeroValue3
  t37 := Tryz.underlying58
  a37 := Tryz.isAgg58
  z37 := Tryz.sizeOf58
  v37 := Tryz.zeroValue58
  t70 := Tryz.underlying222
  a70 := Tryz.isAgg222
  z70 := Tryz.sizeOf222
  v70 := Tryz.zeroValue222
  t72 := Tryz.underlying224
  a72 := Tryz.isAgg224
  z72 := Tryz.sizeOf224
  v72 := Tryz.zeroValue224 }
theorem Tryz.Builder_Extra_241 : Builder.Extra Tryz.prog Tryz.lays241_ren := {
  sizeBuilder := by kernel_rfl
  liesBuilder := by kernel_rfl
  t5 := Tryz.underlying5
  a5 := Tryz.isAgg5
  z5 := Tryz.sizeOf5
  v5 := Tryz.zeroValue5
  infoByte := by kernel_rfl
  cellsByte := by kernel_rfl
  sizeByte := by kernel_rfl
  neB5 := by decide }
open Go.RowKit in
/-- (*strings.Builder).grow (no doc but "grow copies the buffer to a new, larger buffer so that there are at least n bytes of capacity beyond len(b.buf)."): AT A BUILDER WITHOUT A BUFFER: a new row of whatever bytes for its buffer, none of them its own yet. Three draws. (LAID: no walk: one application.) -/
theorem Tryz.Builder_grow_fresh (B b n : Nat) (w : World) (hB : B ≤ b) (hbk : w.heap[b]? = some (.cells #[.pointer (some ⟨b, 0, none⟩), .slice none 0 0] 224 (0, 0))) (hBw : B ≤ w.heap.size) (hn : n ≤ 281474976710656) :
    Calls Tryz.prog 227 #[.pointer (some ⟨b, 0, none⟩), .int .i64 n] w fun e w' => e = .returned (.tuple #[]) ∧ (Lib.BuilderAt 224 5 B b (.pointer (some ⟨b, 0, none⟩)) [] w' ∧ Below B w w') := Any.Builder_grow_fresh Tryz.lays241 Tryz.Builder_Extra_241 B b n w hB hbk hBw hn
def Tryz.lays165_ren : Go.Shelf.Ren := ⟨fun | 165 => 190 | 240 => 226 | 241 => 227 | 276 => 251 | 277 => 252 | n => n, fun | 70 => 222 | 3 => 3 | 0 => 0 | 4 => 4 | 9 => 9 | 20 => 20 | 72 => 224 | 37 => 58 | 164 => 205 | 5 => 5 | n => n, fun | n => n⟩
theorem Tryz.lays165 : Go.Proofs.Lays.n165 Tryz.prog Tryz.lays165_ren := {
  mixed := by kernel_rfl
  f165 := Tryz.func190.trans (congrArg some (by kernel_rfl))
  f240 := Tryz.func226.trans (congrArg some (by kernel_rfl))
  f241 := Tryz.func227.trans (congrArg some (by kernel_rfl))
  f276 := Tryz.func251.trans (congrArg some (by kernel_rfl))
  f277 := Tryz.func252.trans (congrArg some (by kernel_rfl))
  t0 := Tryz.underlying0
  a0 := Tryz.isAgg0
  z0 := Tryz.sizeOf0
  v0 := Tryz.zeroValue0
  t3 := Tryz.underlying3
  a3 := Tryz.isAgg3
  z3 := Tryz.sizeOf3
  v3 := Tryz.zeroValue3
  t4 := Tryz.underlying4
  a4 := Tryz.isAgg4
  z4 := Tryz.sizeOf4
  v4 := Tryz.zeroValue4
  t9 := Tryz.underlying9
  a9 := Tryz.isAgg9
  z9 := Tryz.sizeOf9
  v9 := Tryz.zeroValue9
  t20 := Tryz.underlying20
  a20 := Tryz.isAgg20
  z20 := Tryz.sizeOf20
  v20 := Tryz.zeroValue20
  t37 := Tryz.underlying58
  a37 := Tryz.isAgg58
  z37 := Tryz.sizeOf58
  v37 := Tryz.zeroValue58
  t70 := Tryz.underlying222
  a70 := Tryz.isAgg222
  z70 := Tryz.sizeOf222
  v70 := Tryz.zeroValue222
  t72 := Tryz.underlying224
  a72 := Tryz.isAgg224
  z72 := Tryz.sizeOf224
  v72 := Tryz.zeroValue224
  t164 := Tryz.underlying205
  a164 := Tryz.isAgg205
  z164 := Tryz.sizeOf205
  v164 := Tryz.zeroValue205 }
theorem Tryz.Builder_Extra_165 : Builder.Extra Tryz.prog Tryz.lays165_ren := {
  sizeBuilder := by kernel_rfl
  liesBuilder := by kernel_rfl
  t5 := Tryz.underlying5
  a5 := Tryz.isAgg5
  z5 := Tryz.sizeOf5
  v5 := Tryz.zeroValue5
  infoByte := by kernel_rfl
  cellsByte := by kernel_rfl
  sizeByte := by kernel_rfl
  neB5 := by decide }
open Go.RowKit in
/-- (*strings.Builder).Grow AT A BUILDER THAT HAS NOT BEEN WRITTEN ('var b strings.Builder; b.Grow(n)'): "Grow grows b's capacity, if necessary, to guarantee space for another n bytes.": it holds no byte behind it as before it. (LAID: no walk: one application.) -/
theorem Tryz.Builder_Grow_fresh (B b n : Nat) (w : World) (hB : B ≤ b) (hbk : w.heap[b]? = some (.cells #[.pointer none, .slice none 0 0] 224 (0, 0))) (hBw : B ≤ w.heap.size) (hn : n ≤ 281474976710656) :
    Calls Tryz.prog 190 #[.pointer (some ⟨b, 0, none⟩), .int .i64 n] w fun e w' => e = .returned (.tuple #[]) ∧ (Lib.BuilderAt 224 5 B b (.pointer (some ⟨b, 0, none⟩)) [] w' ∧ Below B w w') := Any.Builder_Grow_fresh Tryz.lays165 Tryz.Builder_Extra_165 B b n w hB hbk hBw hn
def Tryz.lays128_ren : Go.Shelf.Ren := ⟨fun | 128 => 216 | n => n, fun | 51 => 229 | 3 => 3 | 4 => 4 | 46 => 71 | 5 => 5 | 9 => 9 | n => n, fun | n => n⟩
theorem Tryz.lays128 : Go.Proofs.Lays.n128 Tryz.prog Tryz.lays128_ren := {
  mixed := by kernel_rfl
  f128 := Tryz.func216.trans (congrArg some (by kernel_rfl))
  t3 := Tryz.underlying3
  a3 := Tryz.isAgg3
  z3 := Tryz.sizeOf3
  v3 := Tryz.zeroValue3
  t4 := Tryz.underlying4
  a4 := Tryz.isAgg4
  z4 := Tryz.sizeOf4
  v4 := Tryz.zeroValue4
  t5 := Tryz.underlying5
  a5 := Tryz.isAgg5
  z5 := Tryz.sizeOf5
  v5 := Tryz.zeroValue5
  t9 := Tryz.underlying9
  a9 := Tryz.isAgg9
  z9 := Tryz.sizeOf9
  v9 := Tryz.zeroValue9
  t46 := Tryz.underlying71
  a46 := Tryz.isAgg71
  z46 := Tryz.sizeOf71
  v46 := Tryz.zeroValue71
  t51 := Tryz.underlying229
  a51 := Tryz.isAgg229
  z51 := Tryz.sizeOf229
  v51 := Tryz.zeroValue229 }
/-- bits.Len32: "Len32 returns the minimum number of bits required to represent x; the result is 0 for x == 0.": IT RETURNS 'Lib.bitLen x'; the world is as it was. ('h0', 'h1': x is a uint32.) (LAID: no walk: one application.) -/
theorem Tryz.bits_Len32 (x : Int) (w : World) (h0 : 0 ≤ x) (h1 : x ≤ 4294967295) :
    Calls Tryz.prog 216 #[.int .u32 x] w fun e w' => e = .returned (.int .i64 (Lib.bitLen x.toNat)) ∧ w' = w := Any.bits_Len32 Tryz.lays128 x w h0 h1
def Tryz.lays125_ren : Go.Shelf.Ren := ⟨fun | 125 => 184 | 128 => 216 | 129 => 217 | n => n, fun | 46 => 71 | 3 => 3 | 51 => 229 | 53 => 116 | 4 => 4 | 5 => 5 | 9 => 9 | n => n, fun | n => n⟩
theorem Tryz.lays125 : Go.Proofs.Lays.n125 Tryz.prog Tryz.lays125_ren := {
  mixed := by kernel_rfl
  f125 := Tryz.func184.trans (congrArg some (by kernel_rfl))
  f128 := Tryz.func216.trans (congrArg some (by kernel_rfl))
  f129 := Tryz.func217.trans (congrArg some (by kernel_rfl))
  t3 := Tryz.underlying3
  a3 := Tryz.isAgg3
  z3 := Tryz.sizeOf3
  v3 := Tryz.zeroValue3
  t4 := Tryz.underlying4
  a4 := Tryz.isAgg4
  z4 := Tryz.sizeOf4
  v4 := Tryz.zeroValue4
  t5 := Tryz.underlying5
  a5 := Tryz.isAgg5
  z5 := Tryz.sizeOf5
  v5 := Tryz.zeroValue5
  t9 := Tryz.underlying9
  a9 := Tryz.isAgg9
  z9 := Tryz.sizeOf9
  v9 := Tryz.zeroValue9
  t46 := Tryz.underlying71
  a46 := Tryz.isAgg71
  z46 := Tryz.sizeOf71
  v46 := Tryz.zeroValue71
  t51 := Tryz.underlying229
  a51 := Tryz.isAgg229
  z51 := Tryz.sizeOf229
  v51 := Tryz.zeroValue229
  t53 := Tryz.underlying116
  a53 := Tryz.isAgg116
  z53 := Tryz.sizeOf116
  v53 := Tryz.zeroValue116 }
/-- bits.Len: "Len returns the minimum number of bits required to represent x; the result is 0 for x == 0.": IT RETURNS 'Lib.bitLen x'; the world is as it was. (A uint has 64 bits in the model.) ITS CALLEE bits.Len64 IS MET BY ITS OWN CONTRACT OFF THE SHELF (lay that first). (LAID: no walk: one application.) -/
theorem Tryz.bits_Len (x : Int) (w : World) (h0 : 0 ≤ x) (h1 : x ≤ 18446744073709551615) :
    Calls Tryz.prog 184 #[.int .u64 x] w fun e w' => e = .returned (.int .i64 (Lib.bitLen x.toNat)) ∧ w' = w := Any.bits_Len Tryz.lays125 x w h0 h1
open Go.RowKit in
/-- (*strings.Builder).String: "String returns the accumulated string.": OF A BUILDER THAT HOLDS AT LEAST ONE BYTE. ✋ THE MODEL FREEZES THOSE BYTES IN THE BUFFER (unsafe.String): a later write INTO them ends the model's run without an answer; a later append BEHIND them goes on. The statement's order of evaluation is drawn: one draw. THE FORM '_f': IT SAYS BESIDES THAT THE BUILDER IS A BUILDER STILL ('Lib.IsBuilderF', the same bytes): SO IT CAN BE WRITTEN ON: 'b.WriteString(b.String()[:k])'. (LAID: no walk: one application.) -/
theorem Tryz.Builder_String_f (B b : Nat) (l : List UInt8) (w : World) (h : Lib.IsBuilderF 224 5 B b (Lib.byteCells l) w) (h0 : l ≠ []) :
    Calls Tryz.prog 192 #[.pointer (some ⟨b, 0, none⟩)] w fun e w' => e = .returned (.string ⟨l.toArray⟩) ∧ (Lib.IsBuilderF 224 5 B b (Lib.byteCells l) w' ∧ Below B w w') := Any.Builder_String_f Tryz.lays169 Tryz.Builder_Extra_169 B b l w h h0
open Go.RowKit in
/-- (*strings.Builder).String OF A BUILDER THAT HOLDS NO BYTE: the empty string; THE FORM '_f': a builder still. (LAID: no walk: one application.) -/
theorem Tryz.Builder_String_empty_f (B b : Nat) (w : World) (h : Lib.IsBuilderF 224 5 B b [] w) (hBw : B ≤ w.heap.size) :
    Calls Tryz.prog 192 #[.pointer (some ⟨b, 0, none⟩)] w fun e w' => e = .returned (.string ⟨#[]⟩) ∧ (Lib.IsBuilderF 224 5 B b [] w' ∧ Below B w w') := Any.Builder_String_empty_f Tryz.lays169 Tryz.Builder_Extra_169 B b w h hBw
open Go.RowKit in
/-- (*strings.Builder).String: "String returns the accumulated string.": WHATEVER THE BUILDER HOLDS; THE FORM '_f': OF A BUILDER THAT MAY HAVE BEEN READ BEFORE; AND IT IS A BUILDER STILL, holding the same bytes: it can be written on. (LAID: no walk: one application.) -/
theorem Tryz.Builder_String_any_f (B b : Nat) (l : List UInt8) (w : World) (h : Lib.IsBuilderF 224 5 B b (Lib.byteCells l) w) (hBw : B ≤ w.heap.size) :
    Calls Tryz.prog 192 #[.pointer (some ⟨b, 0, none⟩)] w fun e w' => e = .returned (.string ⟨l.toArray⟩) ∧ (Lib.IsBuilderF 224 5 B b (Lib.byteCells l) w' ∧ Below B w w') := Any.Builder_String_any_f Tryz.lays169 Tryz.Builder_Extra_169 B b l w h hBw
open Go.RowKit in
/-- (*strings.Builder).String: "String returns the accumulated string.": OF A BUILDER THAT HOLDS AT LEAST ONE BYTE. ✋ THE MODEL FREEZES THOSE BYTES IN THE BUFFER (unsafe.String): a later write INTO them ends the model's run without an answer; a later append BEHIND them goes on. The statement's order of evaluation is drawn: one draw. THE FORM '_k': OVER 'Lib.IsBuilderF' (a builder that 'String()' may have read), AND WITH THE FRAME THAT REACHES ABOVE THE BUILDER: 'Lib.OthersKept': every block that is not b and is no row of uint8's stands as it stood: the iterator of a range among them. (LAID: no walk: one application.) -/
theorem Tryz.Builder_String_k (B b : Nat) (l : List UInt8) (w : World) (h : Lib.IsBuilderF 224 5 B b (Lib.byteCells l) w) (h0 : l ≠ []) :
    Calls Tryz.prog 192 #[.pointer (some ⟨b, 0, none⟩)] w fun e w' => e = .returned (.string ⟨l.toArray⟩) ∧ (Lib.IsBuilderF 224 5 B b (Lib.byteCells l) w' ∧ Below B w w' ∧ Lib.OthersKept 5 (some b) w w') := Any.Builder_String_k Tryz.lays169 Tryz.Builder_Extra_169 B b l w h h0
open Go.RowKit in
/-- (*strings.Builder).String OF A BUILDER THAT HOLDS NO BYTE: the empty string; THE FORM '_k': OVER 'Lib.IsBuilderF' (a builder that 'String()' may have read), AND WITH THE FRAME THAT REACHES ABOVE THE BUILDER: 'Lib.OthersKept': every block that is not b and is no row of uint8's stands as it stood: the iterator of a range among them. (LAID: no walk: one application.) -/
theorem Tryz.Builder_String_empty_k (B b : Nat) (w : World) (h : Lib.IsBuilderF 224 5 B b [] w) (hBw : B ≤ w.heap.size) :
    Calls Tryz.prog 192 #[.pointer (some ⟨b, 0, none⟩)] w fun e w' => e = .returned (.string ⟨#[]⟩) ∧ (Lib.IsBuilderF 224 5 B b [] w' ∧ Below B w w' ∧ Lib.OthersKept 5 (some b) w w') := Any.Builder_String_empty_k Tryz.lays169 Tryz.Builder_Extra_169 B b w h hBw
open Go.RowKit in
/-- (*strings.Builder).String: "String returns the accumulated string.": WHATEVER THE BUILDER HOLDS; THE FORM '_k': OVER 'Lib.IsBuilderF' (a builder that 'String()' may have read), AND WITH THE FRAME THAT REACHES ABOVE THE BUILDER: 'Lib.OthersKept': every block that is not b and is no row of uint8's stands as it stood: the iterator of a range among them. (LAID: no walk: one application.) -/
theorem Tryz.Builder_String_any_k (B b : Nat) (l : List UInt8) (w : World) (h : Lib.IsBuilderF 224 5 B b (Lib.byteCells l) w) (hBw : B ≤ w.heap.size) :
    Calls Tryz.prog 192 #[.pointer (some ⟨b, 0, none⟩)] w fun e w' => e = .returned (.string ⟨l.toArray⟩) ∧ (Lib.IsBuilderF 224 5 B b (Lib.byteCells l) w' ∧ Below B w w' ∧ Lib.OthersKept 5 (some b) w w') := Any.Builder_String_any_k Tryz.lays169 Tryz.Builder_Extra_169 B b l w h hBw
def Tryz.lays129_ren : Go.Shelf.Ren := ⟨fun | 129 => 217 | n => n, fun | 53 => 116 | 3 => 3 | 4 => 4 | 46 => 71 | 5 => 5 | 9 => 9 | n => n, fun | n => n⟩
theorem Tryz.lays129 : Go.Proofs.Lays.n129 Tryz.prog Tryz.lays129_ren := {
  mixed := by kernel_rfl
  f129 := Tryz.func217.trans (congrArg some (by kernel_rfl))
  t3 := Tryz.underlying3
  a3 := Tryz.isAgg3
  z3 := Tryz.sizeOf3
  v3 := Tryz.zeroValue3
  t4 := Tryz.underlying4
  a4 := Tryz.isAgg4
  z4 := Tryz.sizeOf4
  v4 := Tryz.zeroValue4
  t5 := Tryz.underlying5
  a5 := Tryz.isAgg5
  z5 := Tryz.sizeOf5
  v5 := Tryz.zeroValue5
  t9 := Tryz.underlying9
  a9 := Tryz.isAgg9
  z9 := Tryz.sizeOf9
  v9 := Tryz.zeroValue9
  t46 := Tryz.underlying71
  a46 := Tryz.isAgg71
  z46 := Tryz.sizeOf71
  v46 := Tryz.zeroValue71
  t53 := Tryz.underlying116
  a53 := Tryz.isAgg116
  z53 := Tryz.sizeOf116
  v53 := Tryz.zeroValue116 }
/-- bits.Len64: "Len64 returns the minimum number of bits required to represent x; the result is 0 for x == 0.": IT RETURNS 'Lib.bitLen x'; the world is as it was. ('h0', 'h1': x is a uint64.) (LAID: no walk: one application.) -/
theorem Tryz.bits_Len64 (x : Int) (w : World) (h0 : 0 ≤ x) (h1 : x ≤ 18446744073709551615) :
    Calls Tryz.prog 217 #[.int .u64 x] w fun e w' => e = .returned (.int .i64 (Lib.bitLen x.toNat)) ∧ w' = w := Any.bits_Len64 Tryz.lays129 x w h0 h1
def Tryz.lays197_ren : Go.Shelf.Ren := ⟨fun | 197 => 161 | 260 => 180 | n => n, fun | 9 => 9 | 21 => 21 | 3 => 3 | 4 => 4 | 5 => 5 | 105 => 183 | 119 => 67 | 0 => 0 | 46 => 71 | 139 => 70 | 138 => 69 | n => n, fun | 3 => 0 | 4 => 1 | n => n⟩
theorem Tryz.lays197 : Go.Proofs.Lays.n197 Tryz.prog Tryz.lays197_ren := {
  mixed := by kernel_rfl
  f197 := Tryz.func161.trans (congrArg some (by kernel_rfl))
  f260 := Tryz.func180.trans (congrArg some (by kernel_rfl))
  t0 := Tryz.underlying0
  a0 := Tryz.isAgg0
  z0 := Tryz.sizeOf0
  v0 := Tryz.zeroValue0
  t3 := Tryz.underlying3
  a3 := Tryz.isAgg3
  z3 := Tryz.sizeOf3
  v3 := Tryz.zeroValue3
  t4 := Tryz.underlying4
  a4 := Tryz.isAgg4
  z4 := Tryz.sizeOf4
  v4 := Tryz.zeroValue4
  t5 := Tryz.underlying5
  a5 := Tryz.isAgg5
  z5 := Tryz.sizeOf5
  v5 := Tryz.zeroValue5
  t9 := Tryz.underlying9
  a9 := Tryz.isAgg9
  z9 := Tryz.sizeOf9
  v9 := Tryz.zeroValue9
  t21 := Tryz.underlying21
  a21 := Tryz.isAgg21
  z21 := Tryz.sizeOf21
  v21 := Tryz.zeroValue21
  t46 := Tryz.underlying71
  a46 := Tryz.isAgg71
  z46 := Tryz.sizeOf71
  v46 := Tryz.zeroValue71
  t105 := Tryz.underlying183
  a105 := Tryz.isAgg183
  z105 := Tryz.sizeOf183
  v105 := Tryz.zeroValue183
  t119 := Tryz.underlying67
  a119 := Tryz.isAgg67
  z119 := Tryz.sizeOf67
  t138 := Tryz.underlying69
  a138 := Tryz.isAgg69
  z138 := Tryz.sizeOf69
  v138 := Tryz.zeroValue69
  t139 := Tryz.underlying70
  a139 := Tryz.isAgg70
  z139 := Tryz.sizeOf70
  v139 := Tryz.zeroValue70
  g3 := by kernel_rfl
  g4 := by kernel_rfl }
open Go.RowKit Go.Lib in
/-- unicode/utf8.DecodeRuneInString: "DecodeRuneInString is like DecodeRune but its input is a string.": ("DecodeRune unpacks the first UTF-8 encoding in p and returns the rune and its width in bytes."): WHERE s BEGINS WITH AN ASCII BYTE x: (x, 1). (LAID: no walk: one application.) -/
theorem Tryz.utf8_DecodeRuneInString_ascii (s : ByteArray) (x : UInt8) (w : World) (h0 : s.data.toList[0]? = some x) (hx : x.toNat < 128) :
    Calls Tryz.prog 161 #[.string s] w fun e w' => e = .returned (.tuple #[.int .i32 x.toNat, .int .i64 1]) ∧ w' = w := Any.utf8_DecodeRuneInString_ascii Tryz.lays197 s x w h0 hx
def Tryz.lays260_ren : Go.Shelf.Ren := ⟨fun | 260 => 180 | n => n, fun | 9 => 9 | 21 => 21 | 3 => 3 | 4 => 4 | 5 => 5 | 119 => 67 | 0 => 0 | 46 => 71 | 139 => 70 | 138 => 69 | n => n, fun | 3 => 0 | 4 => 1 | n => n⟩
theorem Tryz.lays260 : Go.Proofs.Lays.n260 Tryz.prog Tryz.lays260_ren := {
  mixed := by kernel_rfl
  f260 := Tryz.func180.trans (congrArg some (by kernel_rfl))
  t0 := Tryz.underlying0
  a0 := Tryz.isAgg0
  z0 := Tryz.sizeOf0
  v0 := Tryz.zeroValue0
  t3 := Tryz.underlying3
  a3 := Tryz.isAgg3
  z3 := Tryz.sizeOf3
  v3 := Tryz.zeroValue3
  t4 := Tryz.underlying4
  a4 := Tryz.isAgg4
  z4 := Tryz.sizeOf4
  v4 := Tryz.zeroValue4
  t5 := Tryz.underlying5
  a5 := Tryz.isAgg5
  z5 := Tryz.sizeOf5
  v5 := Tryz.zeroValue5
  t9 := Tryz.underlying9
  a9 := Tryz.isAgg9
  z9 := Tryz.sizeOf9
  v9 := Tryz.zeroValue9
  t21 := Tryz.underlying21
  a21 := Tryz.isAgg21
  z21 := Tryz.sizeOf21
  v21 := Tryz.zeroValue21
  t46 := Tryz.underlying71
  a46 := Tryz.isAgg71
  z46 := Tryz.sizeOf71
  v46 := Tryz.zeroValue71
  t119 := Tryz.underlying67
  a119 := Tryz.isAgg67
  z119 := Tryz.sizeOf67
  t138 := Tryz.underlying69
  a138 := Tryz.isAgg69
  z138 := Tryz.sizeOf69
  v138 := Tryz.zeroValue69
  t139 := Tryz.underlying70
  a139 := Tryz.isAgg70
  z139 := Tryz.sizeOf70
  v139 := Tryz.zeroValue70
  g3 := by kernel_rfl
  g4 := by kernel_rfl }
open Go.RowKit Go.Lib in
theorem Tryz.utf8_decodeRuneInStringSlow (s : ByteArray) (w : World) (hT : Lib.Utf8Tabs 0 1 w) :
    Calls Tryz.prog 180 #[.string s] w fun e w' => e = .returned (.tuple #[.int .i32 (Lib.decodeGo s).1, .int .i64 (Lib.decodeGo s).2]) ∧ Below w.heap.size w w' := Any.utf8_decodeRuneInStringSlow Tryz.lays260 s w hT
open Go.RowKit Go.Lib in
/-- **unicode/utf8.DecodeRuneInString AT EVERY STRING.** (LAID: no walk: one application.) -/
theorem Tryz.utf8_DecodeRuneInString (s : ByteArray) (w : World) (hT : Lib.Utf8Tabs 0 1 w) :
    Calls Tryz.prog 161 #[.string s] w fun e w' => e = .returned (.tuple #[.int .i32 (Lib.decodeGo s).1, .int .i64 (Lib.decodeGo s).2]) ∧ Below w.heap.size w w' := Any.utf8_DecodeRuneInString Tryz.lays197 s w hT
def Tryz.laysValid_ren : Go.Shelf.Ren := ⟨fun | 196 => 19 | 259 => 44 | n => n, fun | 9 => 9 | 4 => 4 | 3 => 3 | 5 => 5 | 12 => 12 | 119 => 67 | 0 => 0 | 46 => 71 | 139 => 70 | 138 => 69 | 53 => 116 | n => n, fun | 3 => 0 | 4 => 1 | n => n⟩
theorem Tryz.laysValid : Go.Proofs.Lays.n196 Tryz.prog Tryz.laysValid_ren := {
  mixed := by kernel_rfl
  f196 := Tryz.func19.trans (congrArg some (by kernel_rfl))
  f259 := Tryz.func44.trans (congrArg some (by kernel_rfl))
  t0 := Tryz.underlying0
  a0 := Tryz.isAgg0
  z0 := Tryz.sizeOf0
  v0 := Tryz.zeroValue0
  t3 := Tryz.underlying3
  a3 := Tryz.isAgg3
  z3 := Tryz.sizeOf3
  v3 := Tryz.zeroValue3
  t4 := Tryz.underlying4
  a4 := Tryz.isAgg4
  z4 := Tryz.sizeOf4
  v4 := Tryz.zeroValue4
  t5 := Tryz.underlying5
  a5 := Tryz.isAgg5
  z5 := Tryz.sizeOf5
  v5 := Tryz.zeroValue5
  t9 := Tryz.underlying9
  a9 := Tryz.isAgg9
  z9 := Tryz.sizeOf9
  v9 := Tryz.zeroValue9
  t12 := Tryz.underlying12
  a12 := Tryz.isAgg12
  z12 := Tryz.sizeOf12
  v12 := Tryz.zeroValue12
  t46 := Tryz.underlying71
  a46 := Tryz.isAgg71
  z46 := Tryz.sizeOf71
  v46 := Tryz.zeroValue71
  t53 := Tryz.underlying116
  a53 := Tryz.isAgg116
  z53 := Tryz.sizeOf116
  v53 := Tryz.zeroValue116
  t119 := Tryz.underlying67
  a119 := Tryz.isAgg67
  z119 := Tryz.sizeOf67
  t138 := Tryz.underlying69
  a138 := Tryz.isAgg69
  z138 := Tryz.sizeOf69
  v138 := Tryz.zeroValue69
  t139 := Tryz.underlying70
  a139 := Tryz.isAgg70
  z139 := Tryz.sizeOf70
  v139 := Tryz.zeroValue70
  g3 := by kernel_rfl
  g4 := by kernel_rfl }
open Go.RowKit in
/-- utf8.ValidString, from its first line on. -/
theorem Tryz.utf8_ValidString (s : ByteArray) (w : World) (hs : s.size ≤ 9223372036854775807) (hT : Lib.Utf8Tabs 0 1 w) :
    Calls Tryz.prog 19 #[.string s] w fun e w' => e = .returned (.bool (Lib.validD s.data.toList)) ∧ Below w.heap.size w w' := Any.utf8_ValidString Tryz.laysValid s w hs hT
end Go.Proofs

/- The library's functions that the laws call, by the shelf's contracts. -/
namespace Go.Proofs.YtjpcdbopioblaaaGreatDoor
open Go.RowKit

/-- The two tables of unicode/utf8 lie as their initialisers lay them. -/
def Tabs (w : World) : Prop := Lib.Utf8Tabs 0 1 w
theorem Tabs.below {w w' : World} (h : Tabs w) (hb : Below w.heap.size w w') : Tabs w' := Utf8Tabs_below h hb

theorem valid_c (s : ByteArray) (w : World) (hs : s.size ≤ 9223372036854775807) (hT : Tabs w) :
    Calls Tryz.prog 19 #[.string s] w fun e w' => e = .returned (.bool (Lib.validD s.data.toList)) ∧ Below w.heap.size w w' := Go.Proofs.Tryz.utf8_ValidString s w hs hT
end Go.Proofs.YtjpcdbopioblaaaGreatDoor

/- The reference's looker: 'want', 'part', 'str' walked. -/
namespace Go.Proofs.YtjpcdbopioblaaaGreatDoor
open Go.RowKit

/-- A step of a region that is walked in the text's order: the guard by the kernel. -/
theorem still_want {P : Program} {ops : Array Oper} {w : World} {Q : Act → Prop} {a : Act} {o : Oper} {rest : List Oper} (hw : Region.wanted o (yielded ops a.tmps) = true)
    (h : ∀ K : Act → Prop, (∀ a, wpStill P ops w Q rest a → K a) → o.still P a w K) : wpStill P ops w Q (o :: rest) a :=
  wpStill_step fun K hK => by rw [if_pos hw]; exact h K hK
theorem still_skip {P : Program} {ops : Array Oper} {w : World} {Q : Act → Prop} {a : Act} {o : Oper} {rest : List Oper} (hw : Region.wanted o (yielded ops a.tmps) = false)
    (h : wpStill P ops w Q rest (a.put o.dst undef)) : wpStill P ops w Q (o :: rest) a :=
  wpStill_step fun K hK => by rw [if_neg (by rw [hw]; exact Bool.false_ne_true)]; exact hK _ h

/-- The looker in block L. -/
def Lk (w : World) (L : Nat) (p b : Int) (bad : Bool) : Prop := w.heap[L]? = some (.cells #[.int .i64 p, .int .i64 b, .bool bad] 74 (0, 0))

theorem Lk.c0 {w : World} {L : Nat} {p b : Int} {bad : Bool} (h : Lk w L p b bad) : w.cell? ⟨L, 0, none⟩ = some (.int .i64 p) := by unfold Lk at h; simp [World.cell?, h]
theorem Lk.c1 {w : World} {L : Nat} {p b : Int} {bad : Bool} (h : Lk w L p b bad) : w.cell? ⟨L, 1, none⟩ = some (.int .i64 b) := by unfold Lk at h; simp [World.cell?, h]
theorem Lk.c2 {w : World} {L : Nat} {p b : Int} {bad : Bool} (h : Lk w L p b bad) : w.cell? ⟨L, 2, none⟩ = some (.bool bad) := by unfold Lk at h; simp [World.cell?, h]
theorem Lk.fr {w : World} {L : Nat} {p b : Int} {bad : Bool} (h : Lk w L p b bad) (o : Nat) : w.frozen? ⟨L, o, none⟩ = false := by unfold Lk at h; simp [World.frozen?, h]
theorem Lk.lt {w : World} {L : Nat} {p b : Int} {bad : Bool} (h : Lk w L p b bad) : L < w.heap.size := lt_of_block h
theorem Lk.set {w : World} {L : Nat} {p b : Int} {bad : Bool} (h : Lk w L p b bad) (i : Nat) (v : Value) :
    (w.setCell ⟨L, i, none⟩ v).heap[L]? = some (.cells (#[.int .i64 p, .int .i64 b, .bool bad].setIfInBounds i v) 74 (0, 0)) := by
  have hlt := h.lt
  unfold Lk at h
  have h' : w.heap[L] = .cells #[.int .i64 p, .int .i64 b, .bool bad] 74 (0, 0) := by simpa [Array.getElem?_eq_getElem hlt] using h
  show (w.heap.modify L _)[L]? = _
  rw [Array.getElem?_eq_getElem (by simpa using hlt), Array.getElem_modify_self, h']
  rfl
theorem Lk.set0 {w : World} {L : Nat} {p b p' : Int} {bad : Bool} (h : Lk w L p b bad) : Lk (w.setCell ⟨L, 0, none⟩ (.int .i64 p')) L p' b bad := by
  have := h.set 0 (.int .i64 p'); unfold Lk; simpa using this
theorem Lk.set1 {w : World} {L : Nat} {p b b' : Int} {bad : Bool} (h : Lk w L p b bad) : Lk (w.setCell ⟨L, 1, none⟩ (.int .i64 b')) L p b' bad := by
  have := h.set 1 (.int .i64 b'); unfold Lk; simpa using this
theorem Lk.set2 {w : World} {L : Nat} {p b : Int} {bad bad' : Bool} (h : Lk w L p b bad) : Lk (w.setCell ⟨L, 2, none⟩ (.bool bad')) L p b bad' := by
  have := h.set 2 (.bool bad'); unfold Lk; simpa using this
theorem Lk.kept {w w' : World} {L : Nat} {p b : Int} {bad : Bool} (h : Lk w L p b bad) (hb : Below w.heap.size w w') : Lk w' L p b bad := (hb.block L h.lt).trans h

set_option maxHeartbeats 400000 in
theorem want_raw (L : Nat) (bad ok : Bool) (w : World) (hc : w.cell? ⟨L, 2, none⟩ = some (.bool bad)) (hf : w.frozen? ⟨L, 2, none⟩ = false) :
    Calls Tryz.prog 94 #[.pointer (some ⟨L, 0, none⟩), .bool ok] w fun e w' => e = .returned (.tuple #[]) ∧ w.setCell ⟨L, 2, none⟩ (.bool (bad || !ok)) = w' := by
  go_enter Tryz.func94, Tryz.ntmps94
  go_wp2
  all_goals go_end0
  all_goals exact ⟨rfl, by simp [*]⟩

/-- What 'want' leaves. -/
theorem want_any (L : Nat) (p b : Int) (bad ok : Bool) (w : World) (hl : Lk w L p b bad) :
    Calls Tryz.prog 94 #[.pointer (some ⟨L, 0, none⟩), .bool ok] w fun e w' => e = .returned (.tuple #[]) ∧ Lk w' L p b (bad || !ok) ∧ w.grownBy w' (some L) :=
  (want_raw L bad ok w hl.c2 (hl.fr 2)).mono fun _ _ ⟨he, hw⟩ => ⟨he, hw ▸ hl.set2, hw ▸ gb_set (World.grownBy.refl w _) 2 _⟩

/-- What 'part' leaves. -/
def PartPost (L : Nat) (p b deep : Int) (bad : Bool) (w : World) (e : Ending) (w' : World) : Prop :=
  ∃ bad', e = .returned (.bool !bad') ∧ Lk w' L (p + 1) b bad' ∧ w.grownBy w' (some L) ∧ (bad' = false → bad = false ∧ p + 1 ≤ 400 ∧ b ≤ 2000 ∧ deep ≤ 60)
set_option maxHeartbeats 400000 in
theorem part_any (L : Nat) (p b deep : Int) (bad : Bool) (w : World) (hl : Lk w L p b bad) (hp : 0 ≤ p) (hp' : p ≤ 1000) :
    Calls Tryz.prog 93 #[.pointer (some ⟨L, 0, none⟩), .int .i64 deep] w (PartPost L p b deep bad w) := by
  have hc0 := hl.c0
  have hf0 := hl.fr 0
  have hl1 := hl.set0 (p' := p + 1)
  have hc1 := hl1.c0
  have hc2 := hl1.c1
  have H := Lib.hid hl1
  have HG : Hid (w.grownBy (w.setCell ⟨L, 0, none⟩ (.int .i64 (p + 1))) (some L)) := gb_set (World.grownBy.refl w _) 0 _
  clear hl1
  go_enter Tryz.func93, Tryz.ntmps93
  go_wp2_with (go_at_call 94; refine (want_any L (p + 1) b bad _ _ H.out).mono ?_; rintro e w' ⟨rfl, hl2, hg⟩; have hc3 := hl2.c2)
  all_goals go_ret
  all_goals exact ⟨_, by simp, hl2, gb_trans HG.out hg, fun h => by simp at h ⊢ <;> simp_all⟩

/-- What 'str' leaves. -/
def StrPost (L : Nat) (p b : Int) (bad : Bool) (s : ByteArray) (w : World) (e : Ending) (w' : World) : Prop :=
  ∃ bad', e = .returned (.tuple #[]) ∧ Lk w' L p (b + s.size) bad' ∧ w.grownBy w' (some L) ∧ (bad' = false → bad = false ∧ b + s.size ≤ 2000 ∧ Lib.validD s.data.toList = true)
set_option maxHeartbeats 400000 in
theorem str_any (L : Nat) (p b : Int) (bad : Bool) (s : ByteArray) (W w : World) (hB : Below W.heap.size W w) (hl : Lk w L p b bad) (hT : Tabs W) (hL : W.heap.size ≤ L) (hs : s.size ≤ reachN) (hb : 0 ≤ b) (hb' : b ≤ 140737488361232) :
    Calls Tryz.prog 95 #[.pointer (some ⟨L, 0, none⟩), .string s] w (StrPost L p b bad s w) := by
  have hc1 := hl.c1
  have hf1 := hl.fr 1
  have hl1 := hl.set1 (b' := b + s.size)
  have hc2 := hl1.c1
  have H := Lib.hid hl1
  have HG : Hid (w.grownBy (w.setCell ⟨L, 1, none⟩ (.int .i64 (b + s.size))) (some L)) := gb_set (World.grownBy.refl w _) 1 _
  have HT := Lib.hid (hT.below (below_gb hB HG.out hB.size hL))
  unfold reachN at hs
  clear hl1 hT
  go_enter Tryz.func95, Tryz.ntmps95
  go_wp2_with first
    | (go_at_call 19; refine (valid_c s _ (by omega) HT.out).mono ?_; rintro e w1 ⟨rfl, hb1⟩; have H1 := Lib.hid (H.out.kept hb1); have HG1 := Lib.hid (gb_below HG.out hb1); clear hb1)
    | (go_at_call 94; (first | refine (want_any L p (b + s.size) bad _ _ H1.out).mono ?_ | refine (want_any L p (b + s.size) bad _ _ H.out).mono ?_); rintro e w' ⟨rfl, hl2, hg⟩)
  all_goals go_end0
  · exact ⟨_, rfl, hl2, gb_trans HG1.out hg, fun h => by simp at h ⊢ <;> simp_all⟩
  · exact ⟨_, rfl, hl2, gb_trans HG.out hg, fun h => by simp at h ⊢ <;> simp_all⟩
end Go.Proofs.YtjpcdbopioblaaaGreatDoor

/- What the JSON encoder makes of a string, plainly. -/
namespace Go.Proofs.YtjpcdbopioblaaaGreatDoor
open Go.RowKit

def hexL (n : Nat) : UInt8 := if n < 10 then UInt8.ofNat (48 + n) else UInt8.ofNat (87 + n)
/-- A byte in a JSON string. -/
def encB (c : UInt8) : List UInt8 :=
  if c = 34 then [92, 34] else if c = 92 then [92, 92] else if c = 8 then [92, 98] else if c = 12 then [92, 102] else if c = 10 then [92, 110] else if c = 13 then [92, 114] else if c = 9 then [92, 116]
  else if c.toNat < 32 ∨ c.toNat = 127 then [92, 117, 48, 48, hexL (c.toNat / 16), hexL (c.toNat % 16)] else [c]
theorem hex_key : ∀ k : Fin 16, (((⟨#[48, 49, 50, 51, 52, 53, 54, 55, 56, 57, 97, 98, 99, 100, 101, 102]⟩ : ByteArray)[k.val]'k.isLt).toNat = (hexL k.val).toNat) := by decide +kernel
theorem hex_at (z : Int) (h : 0 ≤ z ∧ z < 16) (hz) : ((⟨#[48, 49, 50, 51, 52, 53, 54, 55, 56, 57, 97, 98, 99, 100, 101, 102]⟩ : ByteArray)[z.toNat]'hz).toNat = (hexL z.toNat).toNat := hex_key ⟨z.toNat, by omega⟩
theorem and15_all : ((List.range 256).all fun n => decide (bits .and .u8 (n : Int) 15 = ((n % 16 : Nat) : Int))) = true := by decide +kernel
theorem and15 (c : UInt8) : bits .and .u8 (c.toNat : Int) 15 = ((c.toNat % 16 : Nat) : Int) := by
  have := List.all_eq_true.1 and15_all c.toNat (by simpa using c.toNat_lt)
  simpa using this
/-- It stands as it is. -/
def plainB (c : UInt8) : Prop := 32 ≤ c.toNat ∧ c.toNat ≠ 127 ∧ c.toNat ≠ 34 ∧ c.toNat ≠ 92
theorem encB_plain {c : UInt8} (h : plainB c) : encB c = [c] := by
  obtain ⟨h1, h2, h3, h4⟩ := h
  have n : ∀ m : UInt8, c.toNat ≠ m.toNat → c ≠ m := fun m e e2 => e (by rw [e2])
  unfold encB
  rw [if_neg (n 34 h3), if_neg (n 92 h4), if_neg (n 8 (by intro e; rw [e] at h1; exact absurd h1 (by decide))), if_neg (n 12 (by intro e; rw [e] at h1; exact absurd h1 (by decide))), if_neg (n 10 (by intro e; rw [e] at h1; exact absurd h1 (by decide))),
    if_neg (n 13 (by intro e; rw [e] at h1; exact absurd h1 (by decide))), if_neg (n 9 (by intro e; rw [e] at h1; exact absurd h1 (by decide))), if_neg (by omega)]
theorem encB_ctl (c : UInt8) (h : c.toNat < 32 ∨ c.toNat = 127) (n1 : c.toNat ≠ 34) (n2 : c.toNat ≠ 92) (n3 : c.toNat ≠ 8) (n4 : c.toNat ≠ 12) (n5 : c.toNat ≠ 10) (n6 : c.toNat ≠ 13) (n7 : c.toNat ≠ 9) : encB c = [92, 117, 48, 48] ++ [hexL (c.toNat / 16)] ++ [hexL (c.toNat % 16)] := by
  have n : ∀ m : UInt8, c.toNat ≠ m.toNat → c ≠ m := fun m e e2 => e (by rw [e2])
  unfold encB
  rw [if_neg (n 34 n1), if_neg (n 92 n2), if_neg (n 8 n3), if_neg (n 12 n4), if_neg (n 10 n5), if_neg (n 13 n6), if_neg (n 9 n7), if_pos h]
  rfl
theorem enc_plain {l : List UInt8} (h : ∀ c ∈ l, plainB c) : l.flatMap encB = l := by
  induction l with
  | nil => rfl
  | cons c l ih => rw [List.flatMap_cons, encB_plain (h c (by simp)), ih (fun d hd => h d (by simp [hd]))]; rfl

theorem lead_all : ((List.range 256).all fun b => !(Lib.firstT b % 8 == 2 || Lib.firstT b % 8 == 3 || Lib.firstT b % 8 == 4) || decide (128 ≤ Lib.accLo (Lib.firstT b / 16))) = true := by decide +kernel
theorem lead_lo (b : Nat) (h : b < 256) : Lib.firstT b % 8 = 2 ∨ Lib.firstT b % 8 = 3 ∨ Lib.firstT b % 8 = 4 → 128 ≤ Lib.accLo (Lib.firstT b / 16) := by
  have h1 := List.all_eq_true.1 lead_all b (by simpa using h)
  intro h2
  simp only [Bool.or_eq_true, Bool.not_eq_true', decide_eq_true_eq] at h1
  rcases h1 with h1 | h1
  · simp only [Bool.or_eq_false_iff, beq_eq_false_iff_ne] at h1; omega
  · exact h1

/-- Of a valid text that begins with a byte from 128 on the first so many bytes are from 128 on, and the rest is valid. -/
theorem lead_run (l : List UInt8) (hne : l ≠ []) (h0 : 128 ≤ (l.getD 0 0).toNat) (hv : Lib.validD l = true) :
    ∃ k, 2 ≤ k ∧ k ≤ l.length ∧ (Lib.decodeL l).2 = k ∧ ¬ ((Lib.decodeL l).1 = 65533 ∧ (Lib.decodeL l).2 = 1) ∧ Lib.validD (l.drop k) = true ∧ ∀ c ∈ l.take k, 128 ≤ c.toNat := by
  have hstep := Lib.validD_step l hne
  have hlead := Lib.validD_lead l hne h0
  have hl : 0 < l.length := List.length_pos_iff.2 hne
  rw [hv] at hstep hlead
  have hn : ¬ ((Lib.decodeL l).1 = 65533 ∧ (Lib.decodeL l).2 = 1) := fun h => by rw [if_pos h] at hstep; cases hstep
  rw [if_neg hn] at hstep
  rcases Lib.check_decode l.length (l.getD 0 0).toNat (l.getD 1 0).toNat (l.getD 2 0).toNat (l.getD 3 0).toNat hl h0 (l.getD 0 0).toNat_lt (l.getD 1 0).toNat_lt (l.getD 2 0).toNat_lt (l.getD 3 0).toNat_lt with ⟨hc, hd⟩ | ⟨k, hk, hc, hd⟩
  · rw [hc] at hlead; cases hlead
  · rw [← Lib.decodeL_N] at hd
    refine ⟨k, hk, ?_, hd, hn, by rw [hd] at hstep; exact hstep.symm, ?_⟩
    · clear hstep hlead hd hn
      unfold Lib.checkN at hc
      repeat' split at hc
      all_goals first | (cases hc; done) | (injection hc with hc; omega)
    · have lo := lead_lo (l.getD 0 0).toNat (l.getD 0 0).toNat_lt
      have hb : ∀ j, j < k → 128 ≤ (l.getD j 0).toNat := by
        unfold Lib.checkN at hc
        intro j hj
        repeat' split at hc
        all_goals first | (cases hc; done) | skip
        all_goals
          injection hc with hc
          match j, hj with
          | 0, _ => exact h0
          | 1, _ => omega
          | 2, _ => omega
          | 3, _ => omega
          | j + 4, hj => omega
      intro c hc2
      obtain ⟨j, hj, rfl⟩ := List.mem_iff_getElem.1 hc2
      simp only [List.length_take] at hj
      have := hb j (by omega)
      rw [List.getElem_take]
      rw [List.getD_eq_getElem?_getD, List.getElem?_eq_getElem (by omega)] at this
      exact this
theorem dec_at (s : ByteArray) (i : Nat) (hi : i < s.size) (h : 128 ≤ s[i].toNat) (hv : Lib.validD (s.data.toList.drop i) = true) :
    ∃ r k : Nat, Lib.decodeGo (s.extract i s.size) = (r, k) ∧ 2 ≤ k ∧ i + k ≤ s.size ∧ Lib.validD ((s.data.toList.drop i).drop k) = true ∧ ∀ c ∈ (s.data.toList.drop i).take k, 128 ≤ c.toNat := by
  have hi' : i < s.data.toList.length := by simpa using hi
  have e0 : (s.data.toList.drop i).getD 0 0 = s[i] := by
    rw [List.drop_eq_getElem_cons hi']; rfl
  obtain ⟨k, h2, hk, hd, hn, hv', hc⟩ := lead_run (s.data.toList.drop i) (by intro e; have := congrArg List.length e; rw [List.length_drop, List.length_nil] at this; omega) (by rw [e0]; exact h) hv
  rw [List.length_drop] at hk
  have hs : s.data.toList.length = s.size := Array.length_toList
  refine ⟨(Lib.decodeL (s.data.toList.drop i)).1, k, ?_, h2, by omega, hv', hc⟩
  have e1 : s.extract i s.size = ⟨(s.data.toList.drop i).toArray⟩ := by
    apply ByteArray.ext
    apply Array.toList_inj.1
    rw [ByteArray.data_extract, Array.toList_extract, List.extract_eq_drop_take', List.take_of_length_le (by omega)]
  rw [e1, ← hd]
  unfold Lib.decodeGo
  rw [if_neg (by show ¬ (List.toArray _).size = 0; rw [List.size_toArray, List.length_drop]; omega)]
  rfl
end Go.Proofs.YtjpcdbopioblaaaGreatDoor
