/- 'FormatFloat' walked at a half, in the form f. -/
import Derived.Test.YtjpcdbopioblaaaDecShort
import Derived.Test.YtjpcdbopioblaaaFloats2
import Derived.Test.YtjpcdbopioblaaaDecText
namespace Go.Proofs.Ytjpcdbopioblaaa
open Go.RowKit

theorem f64bits_run (B : Nat) (W : World) : (callFunc 14 #[.float .f64 B]).run Try.prog W = .ok (.value (.int .u64 B)) W := by
  rw [run_callFunc_extern Try.func14 (by kernel_rfl) (by kernel_rfl) (by kernel_rfl) (e := Extern.MathFloatBits.float64bits) (by kernel_rfl)]
  rfl
/-- The one result of a function that keeps it in a cell. -/
theorem results_cellF {fn : Func} {p : Tmp} {ty : TypeId} (h : fn.results = #[.cell p ty]) (tmps : Array Value) (P : Program) (w : World) :
    (results fn tmps).run P w = ((asAddr (tmps.getD p undef)).run P w).andThen fun a w₁ => (loadVar ty a).run P w₁ := by
  simp only [results, h]
  simp [Sem.run_bind, Result.andThen]
theorem formOf_any (w : World) : Calls Try.prog 17 #[.int .i64 64] w fun e w' => e = .returned (.agg #[.int .i64 52, .int .i64 11, .int .i64 (-1023)]) ∧ Below w.heap.size w w' := by
  go_enter Try.func17, Try.ntmps17
  go_wp2_with fail
  refine bodyPost_ret (v := .agg #[.int .i64 52, .int .i64 11, .int .i64 (-1023)]) (by rw [results_cellF rfl]; go_simp) rfl ?_
  exact ⟨rfl, ((Below.refl _ w).alloc (Nat.le_refl _) _)⟩
/-- The text of a half: m of them, below 0 or not. -/
def numTxt (neg : Bool) (m : Nat) : List Nat := (if neg then [45] else []) ++ (dig (m / 2)).map (48 + ·) ++ (if m % 2 = 1 then [46, 53] else [])
theorem text_half {ds : List Nat} {dp m : Nat} (hd : Digs ds) (h0 : ds.getD 0 0 ≠ 0) (hlast : ds.getD (ds.length - 1) 0 ≠ 0) (hne : ds ≠ []) (hv : DVal ds dp m 2) : textL ds dp (m % 2) = (dig (m / 2)).map (48 + ·) ++ (if m % 2 = 1 then [46, 53] else []) := by
  obtain ⟨h1, h2, h3, h4⟩ := half_int hd hlast hne hv
  have hl : ∀ n, lets ds 0 n = ((List.range n).map fun j => ds.getD j 0).map (48 + ·) := fun n => by
    simp [lets, List.map_map]
  have e1 : (if dp = 0 then [48] else lets ds 0 dp) = (dig (m / 2)).map (48 + ·) := by
    by_cases hz : dp = 0
    · subst hz
      have : m / 2 = 0 := by rw [← h1]; rfl
      rw [if_pos rfl, this]
      unfold dig
      simp
    · rw [if_neg hz, hl, dig_of_first hd h0 (by omega), h1]
  have e2 : (if m % 2 = 0 then [] else 46 :: lets ds dp (m % 2)) = (if m % 2 = 1 then [46, 53] else []) := by
    rcases Nat.mod_two_eq_zero_or_one m with h | h
    · rw [h]; rfl
    · rw [h] at h2 ⊢
      simp [lets]
      simp at h2
      rw [h2]
  unfold textL
  rw [e1, e2]
theorem half_prec {ds : List Nat} {dp m : Nat} (hd : Digs ds) (hlast : ds.getD (ds.length - 1) 0 ≠ 0) (hne : ds ≠ []) (hv : DVal ds dp m 2) : ((ds.length : Int) - (dp : Int) ≤ 0 ∧ m % 2 = 0) ∨ ((ds.length : Int) - (dp : Int) = 1 ∧ m % 2 = 1) := by
  obtain ⟨_, _, h3, h4⟩ := half_int hd hlast hne hv
  rcases Nat.mod_two_eq_zero_or_one m with h | h
  · have := h3 h; exact .inl ⟨by omega, h⟩
  · have := h4 h; exact .inr ⟨by omega, h⟩

theorem textB_append (a b : List Nat) : textB (a ++ b) = textB a ++ textB b := by
  refine ByteArray.ext ?_
  simp [textB]
theorem textB_size (l : List Nat) : (textB l).size = l.length := by
  show ((l.map UInt8.ofNat).toArray).size = _
  simp
theorem textL_size (ds : List Nat) (dp p n : Nat) (h : dp ≤ n) (hp : p ≤ n) : (textB (textL ds dp p)).size ≤ 2 * n + 2 := by
  rw [textB_size, textL, List.length_append]
  have h1 : (if dp = 0 then [48] else lets ds 0 dp).length ≤ n + 1 := by split <;> simp [lets_len] <;> omega
  have h2 : (if p = 0 then [] else 46 :: lets ds dp p).length ≤ n + 1 := by split <;> simp [lets_len] <;> omega
  omega

set_option maxRecDepth 100000 in
set_option maxHeartbeats 3200000 in
theorem formatFloat_half (neg : Bool) (B m s K : Nat) (E : Int) (w : World) (hE : E = 1076 - (K : Int)) (hs : 4 * s = m * 2 ^ K) (hK : 2 ≤ K ∧ K ≤ 54) (hs1 : 4503599627370496 ≤ s) (hs2 : s < 9007199254740992)
    (hsg : ((B : Int) / 9223372036854775808 != 0) = neg) (hbE : bits .and .i64 (wrap64 ((B : Int) / 4503599627370496)) 2047 = E) (hbM : bits .and .u64 (B : Int) 4503599627370495 = (s : Int) - 4503599627370496) (hbO : bits .or .u64 ((s : Int) - 4503599627370496) 4503599627370496 = (s : Int)) :
    Calls Try.prog 15 #[.float .f64 B, .int .u8 102, .int .i64 (-1), .int .i64 64] w fun e w' => e = .returned (.string (textB (numTxt neg m))) ∧ Below w.heap.size w w' := by
  have HE := Lib.hid hE
  have HS := Lib.hid hs
  have hE1 : 1022 ≤ E := by omega
  have hE2 : E < 1075 := by omega
  have hE3 : (E == 2047) = false := beq_eq_false_iff_ne.2 (by omega)
  have hE4 : (E == 0) = false := beq_eq_false_iff_ne.2 (by omega)
  have HK := Lib.hid hK
  have hpK : (2 : Nat) ^ K ≤ 2 ^ 54 := Nat.pow_le_pow_right (by decide) hK.2
  have hpK1 : (2 : Nat) ^ K = 2 ^ (K - 1) * 2 := by rw [← Nat.pow_succ]; congr 1; omega
  have HPK := Lib.hid (And.intro hpK hpK1)
  have HND : Hid (∀ wx, Calls Try.prog 20 #[.int .u64 (s : Int)] wx (NewPost s wx)) := Lib.hid fun wx => newDecimal_any s wx (by omega)
  have HSH : Hid (∀ (v b : Nat) (out : List Nat) (dp : Nat) (wx : World), NewD v out dp → DecAt wx b out dp → 2 ^ (K - 1) ≤ 10 * v → Calls Try.prog 21 #[.pointer (some ⟨b, 0, none⟩), .int .i64 (E + -1023 - 52)] wx fun e w' => e = .returned (.tuple #[]) ∧ wx.grownBy w' (some b) ∧ ∃ ds dp', Pos w' b ds dp' v (2 ^ (K - 1)) ∧ ds.getD (ds.length - 1) 0 ≠ 0) := Lib.hid fun v b out dp wx h1 h2 h3 => by
    have := shift_new h1 h2 (k := K - 1) (by omega) (by omega) h3
    rwa [show -((K - 1 : Nat) : Int) = E + -1023 - 52 by omega] at this
  have HSO : Hid (∀ (b : Nat) (ds : List Nat) (dp : Nat) (wx : World), DecAt wx b ds dp → Digs ds → ds.getD 0 0 ≠ 0 → ds.getD (ds.length - 1) 0 ≠ 0 → DVal ds dp m 2 → ds.length ≤ 200 → dp ≤ 100 →
      Calls Try.prog 22 #[.pointer (some ⟨b, 0, none⟩), .int .u64 s, .int .i64 (E + -1023), .agg #[.int .i64 52, .int .i64 11, .int .i64 (-1023)]] wx fun e w' => e = .returned (.pointer (some ⟨b, 0, none⟩)) ∧ Below wx.heap.size wx w') := Lib.hid fun b ds dp wx h1 h2 h3 h4 h5 h6 h7 => by
    have := short_any b ds dp m s K wx h1 h2 h3 h4 h5 h6 h7 hs hK hs1 hs2
    rwa [show 53 - (K : Int) = E + -1023 by omega] at this
  have hsi : (s : Int) < 9007199254740992 := by omega
  have hsj : (4503599627370496 : Int) ≤ (s : Int) := by omega
  clear hE hs hK hpK hpK1
  cases neg
  all_goals (
    have hx := fun W => f64bits_run B W
    go_enter Try.func15, Try.ntmps15
    go_wp2_with fail
    refine (formOf_any _).mono ?_
    rintro e w1 ⟨rfl, hb1⟩
    have HB1 : Hid (∀ o n, Below w.heap.size w ((w1.alloc o).drewN n)) := Lib.hid fun o n => by
      have h := hb1.alloc hb1.size o
      exact ⟨h.os, h.tape, h.output, h.size, h.block⟩
    have HFF : Hid (∀ n, FormAt ((w1.alloc (.cells #[.int .i64 52, .int .i64 11, .int .i64 (-1023)] 54)).drewN n) w1.heap.size) := Lib.hid fun n => heap_alloc_new w1 _
    have HF1 := Lib.hid hb1.size
    clear hb1
    go_wp2_with fail
    go_quiet (fail)
    go_wp2_with fail
    have HB2 := Lib.hid (HB1.out (.cells #[.int .i64 52, .int .i64 11, .int .i64 (-1023)] 54) nq)
    have HF2 := Lib.hid (HFF.out nq)
    clear HB1 HFF hx hsg hbE hbM hbO hE3 hE4
    generalize World.drewN _ nq = w2 at *
    obtain ⟨f0, f1, f2⟩ := HF2.out.cells
    refine (HND.out _).mono ?_
    rintro e w3 ⟨o1, p1, D1, rfl, hD1, hdec1, hb3, -, hN3⟩
    have HF3 : Hid (FormAt w3 w1.heap.size) := Lib.hid (HF2.out.below hb3)
    have HB3 : Hid (Below w.heap.size w w3) := Lib.hid (HB2.out.trans (hb3.mono HB2.out.size))
    have HQ := Lib.hid (And.intro hdec1 (And.intro (hN3 (by omega)) (And.intro hD1 (lt_of_block' HF2.out))))
    have HB2s := Lib.hid HB2.out.size
    clear hdec1 hb3 hN3 hD1 HF2 HB2 f0 f1 f2
    obtain ⟨f0, f1, f2⟩ := HF3.out.cells
    go_wp2_with fail
    refine (HSH.out _ _ _ _ _ HQ.out.2.1 HQ.out.1 (by have := HPK.out; omega)).mono ?_
    rintro e w4 ⟨rfl, hg4, ds, dp, hP4, hlast⟩
    have HF4 : Hid (FormAt w4 w1.heap.size) := Lib.hid (HF3.out.kept hg4 (by have := HQ.out; simp; omega))
    have HB4 : Hid (Below w.heap.size w w4) := Lib.hid (below_gb HB3.out hg4 HB3.out.size (by have := HQ.out; have := HB2s.out; omega))
    have hv : DVal ds dp m 2 := hP4.val.cross (by have h1 := HS.out; rw [HPK.out.2, ← Nat.mul_assoc] at h1; omega) (Nat.pow_pos (by decide))
    have HV := Lib.hid (And.intro hP4.digs (And.intro hP4.first (And.intro hlast (And.intro hP4.ne hv))))
    have HP4 := Lib.hid hP4
    have hpl := hP4.len
    have hpd := hP4.dple
    have HSR := Lib.hid (HSO.out D1 ds dp w4 hP4.dec hP4.digs hP4.first hlast hv (by omega) (by omega))
    have hpr := half_prec hP4.digs hlast hP4.ne hv
    have HPR := Lib.hid hpr
    clear hg4 hP4 hlast hv HF3 HB3 HQ f0 f1 f2 hpr
    obtain ⟨f0, f1, f2⟩ := HF4.out.cells
    go_wp2_with fail
    refine HSR.out.mono ?_
    rintro e w5 ⟨rfl, hb5⟩
    have HD5 := Lib.hid (HP4.out.dec.kept hb5)
    have HB5 := Lib.hid (HB4.out.trans (hb5.mono HB4.out.size))
    clear hb5 f0 f1 f2 HSR HB4 HF4 HP4
    obtain ⟨a, c, c0, c1, -⟩ := HD5.out.open
    have HT : Hid (∀ wx, DecAt wx D1 ds dp → Calls Try.prog 25 #[.pointer (some ⟨D1, 0, none⟩), .int .i64 (max ((ds.length : Int) - (dp : Int)) 0)] wx fun e w' => e = .returned (.string (textB (textL ds dp (m % 2)))) ∧ Below wx.heap.size wx w') := Lib.hid (fun wx h => by
      have := text_any D1 ds dp (m % 2) wx h HV.out.1 (by omega) (by omega)
      rwa [show ((m % 2 : Nat) : Int) = max ((ds.length : Int) - (dp : Int)) 0 by rcases HPR.out with ⟨h1, h2⟩ | ⟨h1, h2⟩ <;> rw [h2, Int.max_def] <;> split <;> omega] at this)
    go_wp2_with fail
    go_quiet (fail)
    go_wp2_with fail
    refine (HT.out _ (HD5.out.drewN nq)).mono ?_
    rintro e w6 ⟨rfl, hb6⟩
    have HB6 : Hid (Below w.heap.size w w6) := Lib.hid (HB5.out.trans (show Below w.heap.size w5 w6 from (show Below w5.heap.size w5 w6 from ⟨hb6.os, hb6.tape, hb6.output, hb6.size, hb6.block⟩).mono HB5.out.size))
    clear hb6 HT
    have hsz := textL_size ds dp (m % 2) 100 (by omega) (by omega)
    obtain ⟨tx, htx⟩ : ∃ tx, tx = textB (textL ds dp (m % 2)) := ⟨_, rfl⟩
    rw [← htx] at hsz ⊢
    have HTX := Lib.hid (And.intro htx.symm (text_half HV.out.1 HV.out.2.1 HV.out.2.2.1 HV.out.2.2.2.1 HV.out.2.2.2.2))
    clear htx
    have hsz2 : ¬ (9223372036854775807 : Int) < (tx.size : Int) := by omega
    go_wp2_with fail
    go_ret
    refine ⟨?_, HB6.out⟩
    unfold numTxt
    rw [List.append_assoc, ← HTX.out.2, textB_append, HTX.out.1]
    rfl)
end Go.Proofs.Ytjpcdbopioblaaa
