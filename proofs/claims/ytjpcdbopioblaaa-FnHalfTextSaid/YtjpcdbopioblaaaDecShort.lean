/- 'short' of a decimal walked: of a half below 2^52 all digits are kept. -/
import Derived.Test.YtjpcdbopioblaaaDecUp
namespace Go.Proofs.Ytjpcdbopioblaaa
open Go.RowKit

theorem DVal.cross {ds : List Nat} {dp n d n' d' : Nat} (h : DVal ds dp n d) (e : n * d' = n' * d) (hd : 0 < d) : DVal ds dp n' d' := by
  obtain ⟨j, hl, he⟩ := h
  refine ⟨j, hl, ?_⟩
  refine Nat.eq_of_mul_eq_mul_right hd ?_
  calc numP ds (dp + j) * d' * d = numP ds (dp + j) * d * d' := Nat.mul_right_comm _ _ _
    _ = n * 10 ^ j * d' := by rw [he]
    _ = n * d' * 10 ^ j := Nat.mul_right_comm _ _ _
    _ = n' * d * 10 ^ j := by rw [e]
    _ = n' * 10 ^ j * d := Nat.mul_right_comm _ _ _
/-- A decimal of the call's own that is above 0. -/
structure Pos (W : World) (b : Nat) (ds : List Nat) (dp num den : Nat) : Prop where
  dec : DecAt W b ds dp
  digs : Digs ds
  ne : ds ≠ []
  first : ds.getD 0 0 ≠ 0
  len : ds.length ≤ 200
  dple : dp ≤ 100
  val : DVal ds dp num den
theorem Pos.kept {W W' : World} {b : Nat} {ds : List Nat} {dp num den : Nat} (h : Pos W b ds dp num den) (hb : Below W.heap.size W W') : Pos W' b ds dp num den := ⟨h.dec.kept hb, h.digs, h.ne, h.first, h.len, h.dple, h.val⟩
/-- What shifting a new decimal down gives. -/
theorem shift_new {v k b : Nat} {out : List Nat} {dp : Nat} {w : World} (hn : NewD v out dp) (h : DecAt w b out dp) (hk0 : 0 < k) (hk : k ≤ 55) (hbig : 2 ^ k ≤ 10 * v) :
    Calls Try.prog 21 #[.pointer (some ⟨b, 0, none⟩), .int .i64 (-(k : Int))] w fun e w' => e = .returned (.tuple #[]) ∧ w.grownBy w' (some b) ∧ ∃ ds dp', Pos w' b ds dp' v (2 ^ k) ∧ ds.getD (ds.length - 1) 0 ≠ 0 :=
  (shift_half b out dp k w h hn.digs hn.pos (by rw [hn.next]; exact hbig) hk0 (by omega) (by have := hn.len; have := hn.most; omega) (by have := hn.most; omega)).mono fun e w' ⟨o2, dp', he, h1, h2, h3, h4, h5, h6, h7, h8, h9⟩ =>
    ⟨he, h2, o2, dp', ⟨h1, h3, h4, h5, by have := hn.len; have := hn.most; omega, by have := hn.most; omega, by have := h9 v 1 hn.val; rwa [Nat.one_mul] at this⟩, h6⟩
def FormAt (W : World) (f : Nat) : Prop := W.heap[f]? = some (.cells #[.int .i64 52, .int .i64 11, .int .i64 (-1023)] 54 (0, 0))
theorem FormAt.cells {W : World} {f : Nat} (h : FormAt W f) : W.cell? ⟨f, 0, none⟩ = some (.int .i64 52) ∧ W.cell? ⟨f, 1, none⟩ = some (.int .i64 11) ∧ W.cell? ⟨f, 2, none⟩ = some (.int .i64 (-1023)) := by
  unfold FormAt at h
  simp [World.cell?, h]
theorem FormAt.kept {W W' : World} {f : Nat} (h : FormAt W f) {row : Option Nat} (hg : W.grownBy W' row) (hne : some f ≠ row) : FormAt W' f := (hg.block f (lt_of_block' h) hne).trans h
theorem FormAt.below {W W' : World} {f : Nat} (h : FormAt W f) (hg : Below W.heap.size W W') : FormAt W' f := (hg.block f (lt_of_block' h)).trans h
def eq52 (s : Nat) : Bool := (s : Int) == 4503599627370496
theorem cur_first {ds cur : List Nat} {n r : Nat} (h : ds.take n = cur ++ List.replicate r 0) (h0 : ds.getD 0 0 ≠ 0) (hne : cur ≠ []) : cur.getD 0 0 ≠ 0 := by
  cases cur with
  | nil => exact absurd rfl hne
  | cons a l =>
    have hn : 0 < n := by
      refine Nat.pos_of_ne_zero fun e => ?_
      subst e
      simp at h
    have e : (ds.take n).getD 0 0 = a := by rw [h]; rfl
    rw [getD_take hn] at e
    show a ≠ 0
    rw [← e]
    exact h0
/-- The low edge is above what is cut. -/
theorem cmp_low {ds cur low : List Nat} {dp m n r dpl num den : Nat} {w : World} {e : Ending} {w' : World} (hd : Digs ds) (hlast : ds.getD (ds.length - 1) 0 ≠ 0) (hv : DVal ds dp m 2) (hn : n < ds.length) (hcur : ds.take n = cur ++ List.replicate r 0)
    (hlow : DVal low dpl num den) (hne : low ≠ []) (hq : (m - 1) * den < 2 * num) (h : CmpPost low cur dpl (if cur = [] then 0 else (dp : Int)) w e w') : ∃ c : Int, e = .returned (.int .i64 c) ∧ Below w.heap.size w w' ∧ 1 ≤ c ∧ c ≤ 1000000 := by
  obtain ⟨c, he, hb, h1, h2, h3⟩ := h
  refine ⟨c, he, hb, ?_, h2⟩
  rcases h3 with h3 | h3 | h3
  · omega
  · exact absurd h3 hne
  · exfalso
    refine not_down hd hlast hv hn (D := cur) (by have := congrArg List.length hcur; simp at this; omega) (numP_cut (by omega) hcur) hlow hq ?_
    by_cases hc : cur = []
    · subst hc; rw [if_pos rfl] at h3; exact leD_nil h3
    · rw [if_neg hc] at h3; exact h3
theorem cmp_high {ds U high : List Nat} {dp m n dpu dph num den : Nat} {w : World} {e : Ending} {w' : World} (hd : Digs ds) (hlast : ds.getD (ds.length - 1) 0 ≠ 0) (hv : DVal ds dp m 2) (hn : n < ds.length) (hU : DVal U dpu ((numP ds n + 1) * 10 ^ (dp - n)) 1) (hne : U ≠ [])
    (hhigh : DVal high dph num den) (hq : 2 * num < (m + 1) * den) (h : CmpPost U high dpu dph w e w') : ∃ c : Int, e = .returned (.int .i64 c) ∧ Below w.heap.size w w' ∧ 1 ≤ c ∧ c ≤ 1000000 := by
  obtain ⟨c, he, hb, h1, h2, h3⟩ := h
  refine ⟨c, he, hb, ?_, h2⟩
  rcases h3 with h3 | h3 | h3
  · omega
  · exact absurd h3 hne
  · exact absurd h3 (not_up hd hlast hv hn hU hhigh hq)

set_option maxRecDepth 100000 in
set_option maxHeartbeats 3200000 in
theorem short_any (b : Nat) (ds : List Nat) (dp m s K : Nat) (w : World) (h : DecAt w b ds dp) (hd : Digs ds) (h0 : ds.getD 0 0 ≠ 0) (hlast : ds.getD (ds.length - 1) 0 ≠ 0) (hv : DVal ds dp m 2) (hl : ds.length ≤ 200) (hdp : dp ≤ 100)
    (hs : 4 * s = m * 2 ^ K) (hK : 2 ≤ K ∧ K ≤ 54) (hs1 : 4503599627370496 ≤ s) (hs2 : s < 9007199254740992) :
    Calls Try.prog 22 #[.pointer (some ⟨b, 0, none⟩), .int .u64 s, .int .i64 (53 - (K : Int)), .agg #[.int .i64 52, .int .i64 11, .int .i64 (-1023)]] w fun e w' => e = .returned (.pointer (some ⟨b, 0, none⟩)) ∧ Below w.heap.size w w' := by
  have H := Lib.hid h
  have HD := Lib.hid (And.intro hd (And.intro h0 (And.intro hlast hv)))
  have HS := Lib.hid hs
  have HB0 : Hid (∀ o, Below w.heap.size w (w.alloc o)) := Lib.hid fun o => (Below.refl _ w).alloc (Nat.le_refl _) o
  clear h hd h0 hlast hv hs
  have hs0 : ((s : Int) == 0) = false := beq_eq_false_iff_ne.2 (by omega)
  have hsi : (s : Int) < 9007199254740992 := by omega
  have hsj : (4503599627370496 : Int) ≤ (s : Int) := by omega
  have hpK : (2 : Nat) ^ K ≤ 2 ^ 54 := Nat.pow_le_pow_right (by decide) hK.2
  have hpK4 : (2 : Nat) ^ 2 ≤ 2 ^ K := Nat.pow_le_pow_right (by decide) hK.1
  have hpK1 : (2 : Nat) ^ (K + 1) = 2 * 2 ^ K := by rw [Nat.pow_succ, Nat.mul_comm]
  have HPK := Lib.hid (And.intro hpK (And.intro hpK4 hpK1))
  have HQH : Hid (2 * (2 * s + 1) < (m + 1) * 2 ^ K) := Lib.hid (by rw [Nat.add_mul, ← HS.out]; omega)
  have HQL : Hid ((m - 1) * 2 ^ K < 2 * (2 * s - 1)) := Lib.hid (by rw [Nat.sub_mul, ← HS.out]; omega)
  have HQL2 : Hid ((m - 1) * 2 ^ (K + 1) < 2 * (4 * s - 1)) := Lib.hid (by rw [hpK1, Nat.mul_left_comm, Nat.sub_mul, ← HS.out]; omega)
  clear hpK hpK4 hpK1
  have HN1 : Hid (∀ wx, Calls Try.prog 20 #[.int .u64 (2 * (s : Int) + 1)] wx (NewPost (2 * s + 1) wx)) := Lib.hid fun wx => by have := newDecimal_any (2 * s + 1) wx (by omega); rwa [show ((2 * s + 1 : Nat) : Int) = 2 * (s : Int) + 1 by omega] at this
  have HN2 : Hid (∀ wx, Calls Try.prog 20 #[.int .u64 (2 * (s : Int) - 1)] wx (NewPost (2 * s - 1) wx)) := Lib.hid fun wx => by have := newDecimal_any (2 * s - 1) wx (by omega); rwa [show ((2 * s - 1 : Nat) : Int) = 2 * (s : Int) - 1 by omega] at this
  have HN4 : Hid (∀ wx, Calls Try.prog 20 #[.int .u64 (4 * (s : Int) - 1)] wx (NewPost (4 * s - 1) wx)) := Lib.hid fun wx => by have := newDecimal_any (4 * s - 1) wx (by omega); rwa [show ((4 * s - 1 : Nat) : Int) = 4 * (s : Int) - 1 by omega] at this
  have HSH : Hid (∀ (v b : Nat) (out : List Nat) (dp : Nat) (wx : World), NewD v out dp → DecAt wx b out dp → 2 ^ K ≤ 10 * v → Calls Try.prog 21 #[.pointer (some ⟨b, 0, none⟩), .int .i64 (53 - (K : Int) - 52 - 1)] wx fun e w' => e = .returned (.tuple #[]) ∧ wx.grownBy w' (some b) ∧ ∃ ds dp', Pos w' b ds dp' v (2 ^ K) ∧ ds.getD (ds.length - 1) 0 ≠ 0) := Lib.hid fun v b out dp wx h1 h2 h3 => by
    have := shift_new h1 h2 (k := K) (by omega) (by omega) h3
    rwa [show -(K : Int) = 53 - (K : Int) - 52 - 1 by omega] at this
  have HSH2 : Hid (∀ (v b : Nat) (out : List Nat) (dp : Nat) (wx : World), NewD v out dp → DecAt wx b out dp → 2 ^ (K + 1) ≤ 10 * v → Calls Try.prog 21 #[.pointer (some ⟨b, 0, none⟩), .int .i64 (53 - (K : Int) - 52 - 2)] wx fun e w' => e = .returned (.tuple #[]) ∧ wx.grownBy w' (some b) ∧ ∃ ds dp', Pos w' b ds dp' v (2 ^ (K + 1)) ∧ ds.getD (ds.length - 1) 0 ≠ 0) := Lib.hid fun v b out dp wx h1 h2 h3 => by
    have := shift_new h1 h2 (k := K + 1) (by omega) (by omega) h3
    rwa [show -((K + 1 : Nat) : Int) = 53 - (K : Int) - 52 - 2 by omega] at this
  have hcase : (s = 4503599627370496 ∧ ((s : Int) == 4503599627370496) = eq52 s ∧ eq52 s = true ∧ ((s : Int) % 2 == 0) = true) ∨ (((s : Int) == 4503599627370496) = false ∧ ((s : Int) % 2 == 0) = true) ∨ (((s : Int) == 4503599627370496) = false ∧ ((s : Int) % 2 == 0) = false) := by
    by_cases h1 : s = 4503599627370496
    · exact .inl ⟨h1, rfl, beq_iff_eq.2 (by omega), beq_iff_eq.2 (by omega)⟩
    · have h2 : ((s : Int) == 4503599627370496) = false := beq_eq_false_iff_ne.2 (by omega)
      cases h3 : ((s : Int) % 2 == 0)
      · exact .inr (.inr ⟨h2, rfl⟩)
      · exact .inr (.inl ⟨h2, rfl⟩)
  have HC := Lib.hid hcase
  clear hcase
  go_enter Try.func22, Try.ntmps22
  go_wp2_with fail
  refine (HN1.out _).mono ?_
  rintro e w2 ⟨o1, p1, D1, rfl, hD1, hdec1, hb1, -, hN1⟩
  have HF2 : Hid (FormAt w2 w.heap.size) := Lib.hid ((hb1.block _ (by simp)).trans (heap_alloc_new w _))
  have HB2 : Hid (Below w.heap.size w w2) := Lib.hid ((HB0.out _).trans (hb1.mono (by simp)))
  have HQ1 := Lib.hid (And.intro hdec1 (hN1 (by omega)))
  have HD1 : Hid (w.heap.size < D1) := Lib.hid (Nat.lt_of_lt_of_le (by simp) hD1)
  clear hdec1 hb1 hN1 hD1
  obtain ⟨f0, f1, f2⟩ := HF2.out.cells
  go_wp2_with fail
  refine (HSH.out _ _ _ _ _ HQ1.out.2 HQ1.out.1 (by have := HPK.out; omega)).mono ?_
  rintro e w3 ⟨rfl, hg3, H1, hdp1, hP1, -⟩
  have HP1 := Lib.hid hP1
  have HF3 : Hid (FormAt w3 w.heap.size) := Lib.hid (HF2.out.kept hg3 (by have := HD1.out; simp; omega))
  have HB3 : Hid (Below w.heap.size w w3) := Lib.hid (below_gb HB2.out hg3 HB2.out.size (Nat.le_of_lt HD1.out))
  clear hg3 hP1 HF2 HB2 f0 f1 f2 HQ1
  go_wp2_with fail
  refine (HN2.out _).mono ?_
  rintro e w4 ⟨o2, p2, D2, rfl, hD2, hdec2, hb2, -, hN2⟩
  have HF4 : Hid (FormAt w4 w.heap.size) := Lib.hid (HF3.out.below hb2)
  have HB4 : Hid (Below w3.heap.size w3 w4) := Lib.hid hb2
  have HQ2 := Lib.hid (And.intro hdec2 (hN2 (by omega)))
  have HD2 : Hid (w3.heap.size ≤ D2) := Lib.hid hD2
  clear hdec2 hb2 hN2 hD2
  obtain ⟨f0, f1, f2⟩ := HF4.out.cells
  go_wp2_with fail
  refine (HSH.out _ _ _ _ _ HQ2.out.2 HQ2.out.1 (by have := HPK.out; omega)).mono ?_
  rintro e w5 ⟨rfl, hg5, L2, dp2, hP2, -⟩
  have HP2 := Lib.hid hP2
  have HF5 : Hid (FormAt w5 w.heap.size) := Lib.hid (HF4.out.kept hg5 (by have := HD2.out; have := lt_of_block' HF3.out; simp; omega))
  have HB5 : Hid (Below w3.heap.size w3 w5) := Lib.hid (below_gb HB4.out hg5 HB4.out.size HD2.out)
  clear hg5 hP2 HF4 HB4 f0 f1 f2 HQ2
  have HB6 : Hid (Below w.heap.size w w5) := Lib.hid (HB3.out.trans (HB5.out.mono HB3.out.size))
  have HP6 : Hid (Pos w5 D1 H1 hdp1 (2 * s + 1) (2 ^ K)) := Lib.hid (HP1.out.kept HB5.out)
  clear HP1 HB5 HB3 HD2 HF3
  obtain ⟨f0, f1, f2⟩ := HF5.out.cells
  rcases HC.out with ⟨-, he1, he3, he2⟩ | ⟨he1, he2⟩ | ⟨he1, he2⟩
  · have hk5 : (-1022 : Int) < 53 - (K : Int) := by omega
    have hk6 : (K : Int) < 1075 := by omega
    go_wp2_with fail
    refine (HN4.out _).mono ?_
    rintro e w6 ⟨o3, p3, D3, rfl, hD3, hdec3, hb3, -, hN3⟩
    have HF6 : Hid (FormAt w6 w.heap.size) := Lib.hid (HF5.out.below hb3)
    have HQ3 := Lib.hid (And.intro hdec3 (And.intro hb3 (And.intro hD3 (hN3 (by omega)))))
    clear hdec3 hb3 hN3 hD3 f0 f1 f2
    obtain ⟨f0, f1, f2⟩ := HF6.out.cells
    go_wp2_with fail
    refine (HSH2.out _ _ _ _ _ HQ3.out.2.2.2 HQ3.out.1 (by have := HPK.out; omega)).mono ?_
    rintro e w7 ⟨rfl, hg7, L3, dp3, hP3, -⟩
    have HP3 := Lib.hid hP3
    have HB7 : Hid (Below w5.heap.size w5 w7) := Lib.hid (below_gb HQ3.out.2.1 hg7 HQ3.out.2.1.size HQ3.out.2.2.1)
    clear hg7 hP3 HF6 f0 f1 f2 HQ3
    have HB8 : Hid (Below w.heap.size w w7) := Lib.hid (HB6.out.trans (HB7.out.mono HB6.out.size))
    have HP8 : Hid (Pos w7 D1 H1 hdp1 (2 * s + 1) (2 ^ K)) := Lib.hid (HP6.out.kept HB7.out)
    clear HB6 HP6 HB7 HP2 hk5 hk6 he3
    have f0 := trivial
    have f1 := trivial
    have f2 := trivial
    have HPL := Lib.hid HP3.out
    go_wp2_with fail
    clear HN1 HN2 HN4 HSH HSH2 HC he1 he2 hs0 hsi hsj
    go_loopg [12] (ds.length) (fun gk s12 wr => ∃ n : Nat, s12 = .int .i64 n ∧ n ≤ ds.length ∧ gk = ds.length - n ∧ Hid (Below w.heap.size w wr) ∧ Hid (Pos wr D1 H1 hdp1 (2 * s + 1) (2 ^ K)) ∧ Hid (Pos wr D3 L3 dp3 (4 * s - 1) (2 ^ (K + 1))))
    case atStart => exact ⟨0, rfl, Nat.zero_le _, rfl, HB8, HP8, HPL⟩
    case round =>
      obtain ⟨n, rfl, hn, rfl, HBW, HPH, HPLW⟩ := hrel
      clear HB8 HP8 HPL HP3 f0 f1 f2
      have HA := Lib.hid (H.out.kept HBW.out)
      obtain ⟨a, c, c0, c1, -⟩ := HA.out.open
      by_cases hlt : n < ds.length
      · have hj : (n : Int) < (ds.length : Int) := by omega
        have hhl := half_len HD.out.2.2.2 HD.out.2.2.1 HD.out.1
        have HDN := Lib.hid (down_any b ds dp n _ HA.out hlt (by omega))
        go_wp2_with fail
        refine HDN.out.mono ?_
        rintro e w7 ⟨D7, cur, r, rfl, hcur, hdec, hb7, hlast7, -⟩
        have HCUR := Lib.hid (And.intro hcur (And.intro hdec (And.intro hb7 hlast7)))
        have HUP := Lib.hid (up_any b ds dp n w7 (HA.out.kept hb7) HD.out.1 hlt (by omega) (by omega) (by omega))
        clear hcur hdec hb7 hlast7 HDN c0 c1
        go_wp2_with fail
        refine HUP.out.mono ?_
        rintro e w8 ⟨D8, U, dpu, rfl, hU1, hU2, hU3, hU4, hU5, hU6, hU7⟩
        have HU := Lib.hid (And.intro hU1 (And.intro hU2 (And.intro hU3 (And.intro hU4 (And.intro hU5 (And.intro hU6 hU7))))))
        have HW8 : Hid (Below _ _ w8) := Lib.hid (HCUR.out.2.2.1.trans (hU2.mono HCUR.out.2.2.1.size))
        have HL8 := Lib.hid (HPLW.out.kept HW8.out)
        have HH8 := Lib.hid (HPH.out.kept HW8.out)
        have HCL := Lib.hid (cmp_any D3 D7 L3 cur dp3 (if cur = [] then 0 else (dp : Int)) w8 HL8.out.dec (HCUR.out.2.1.kept hU2) (by have := HL8.out.len; omega) (by have := congrArg List.length HCUR.out.1; simp at this; omega) (by have := HL8.out.dple; omega) (by split <;> omega) HL8.out.digs (fun d hd => HD.out.1 d (List.mem_of_mem_take (by rw [HCUR.out.1]; exact List.mem_append_left _ hd))) (cur_first HCUR.out.1 HD.out.2.1))
        clear hU1 hU2 hU3 hU4 hU5 hU6 hU7 HUP
        go_wp2_with fail
        refine HCL.out.mono ?_
        intro e w9 hc9
        obtain ⟨c9, rfl, hb9, hc1, hc2⟩ := cmp_low HD.out.1 HD.out.2.2.1 HD.out.2.2.2 hlt HCUR.out.1 HL8.out.val HL8.out.ne HQL2.out hc9
        have HB9 := Lib.hid hb9
        have HCH := Lib.hid (cmp_any D8 D1 U H1 dpu hdp1 w9 (HU.out.1.kept hb9) (HH8.out.dec.kept hb9) (by have := HU.out.2.2.2.2.1; omega) (by have := HH8.out.len; omega) (by have := HU.out.2.2.2.2.2.1; omega) (by have := HH8.out.dple; omega) HU.out.2.2.1 HH8.out.digs (fun _ => HH8.out.first))
        clear hc9 hb9 HCL
        have hc0 : ¬ c9 < 1 := by omega
        go_wp2_with fail
        refine HCH.out.mono ?_
        intro e w10 hc10
        obtain ⟨c10, rfl, hb10, hc3, hc4⟩ := cmp_high HD.out.1 HD.out.2.2.1 HD.out.2.2.2 hlt HU.out.2.2.2.2.2.2 HU.out.2.2.2.1 HH8.out.val HQH.out hc10
        have HBA : Hid (Below _ _ w10) := Lib.hid (HW8.out.trans ((HB9.out.trans (hb10.mono HB9.out.size)).mono HW8.out.size))
        clear hc10 hb10 HCH
        have hc5 : ¬ c10 < 1 := by omega
        go_wp2_with fail
        go_roundg (ds.length - (n + 1))
        case measure => omega
        case rel => exact ⟨n + 1, by go_num, by omega, rfl, Lib.hid (HBW.out.trans (HBA.out.mono HBW.out.size)), Lib.hid (HPH.out.kept HBA.out), Lib.hid (HPLW.out.kept HBA.out)⟩
      · have hj : ¬ ((n : Int) < (ds.length : Int)) := by omega
        go_wp2_with fail
        go_ret
        exact ⟨rfl, HBW.out⟩
  · skip
    have HPL := Lib.hid HP2.out
    go_wp2_with fail
    clear HN1 HN2 HN4 HSH HSH2 HC he1 he2 hs0 hsi hsj
    go_loopg [12] (ds.length) (fun gk s12 wr => ∃ n : Nat, s12 = .int .i64 n ∧ n ≤ ds.length ∧ gk = ds.length - n ∧ Hid (Below w.heap.size w wr) ∧ Hid (Pos wr D1 H1 hdp1 (2 * s + 1) (2 ^ K)) ∧ Hid (Pos wr D2 L2 dp2 (2 * s - 1) (2 ^ K)))
    case atStart => exact ⟨0, rfl, Nat.zero_le _, rfl, HB6, HP6, HPL⟩
    case round =>
      obtain ⟨n, rfl, hn, rfl, HBW, HPH, HPLW⟩ := hrel
      clear HB6 HP6 HPL HP2 f0 f1 f2
      have HA := Lib.hid (H.out.kept HBW.out)
      obtain ⟨a, c, c0, c1, -⟩ := HA.out.open
      by_cases hlt : n < ds.length
      · have hj : (n : Int) < (ds.length : Int) := by omega
        have hhl := half_len HD.out.2.2.2 HD.out.2.2.1 HD.out.1
        have HDN := Lib.hid (down_any b ds dp n _ HA.out hlt (by omega))
        go_wp2_with fail
        refine HDN.out.mono ?_
        rintro e w7 ⟨D7, cur, r, rfl, hcur, hdec, hb7, hlast7, -⟩
        have HCUR := Lib.hid (And.intro hcur (And.intro hdec (And.intro hb7 hlast7)))
        have HUP := Lib.hid (up_any b ds dp n w7 (HA.out.kept hb7) HD.out.1 hlt (by omega) (by omega) (by omega))
        clear hcur hdec hb7 hlast7 HDN c0 c1
        go_wp2_with fail
        refine HUP.out.mono ?_
        rintro e w8 ⟨D8, U, dpu, rfl, hU1, hU2, hU3, hU4, hU5, hU6, hU7⟩
        have HU := Lib.hid (And.intro hU1 (And.intro hU2 (And.intro hU3 (And.intro hU4 (And.intro hU5 (And.intro hU6 hU7))))))
        have HW8 : Hid (Below _ _ w8) := Lib.hid (HCUR.out.2.2.1.trans (hU2.mono HCUR.out.2.2.1.size))
        have HL8 := Lib.hid (HPLW.out.kept HW8.out)
        have HH8 := Lib.hid (HPH.out.kept HW8.out)
        have HCL := Lib.hid (cmp_any D2 D7 L2 cur dp2 (if cur = [] then 0 else (dp : Int)) w8 HL8.out.dec (HCUR.out.2.1.kept hU2) (by have := HL8.out.len; omega) (by have := congrArg List.length HCUR.out.1; simp at this; omega) (by have := HL8.out.dple; omega) (by split <;> omega) HL8.out.digs (fun d hd => HD.out.1 d (List.mem_of_mem_take (by rw [HCUR.out.1]; exact List.mem_append_left _ hd))) (cur_first HCUR.out.1 HD.out.2.1))
        clear hU1 hU2 hU3 hU4 hU5 hU6 hU7 HUP
        go_wp2_with fail
        refine HCL.out.mono ?_
        intro e w9 hc9
        obtain ⟨c9, rfl, hb9, hc1, hc2⟩ := cmp_low HD.out.1 HD.out.2.2.1 HD.out.2.2.2 hlt HCUR.out.1 HL8.out.val HL8.out.ne HQL.out hc9
        have HB9 := Lib.hid hb9
        have HCH := Lib.hid (cmp_any D8 D1 U H1 dpu hdp1 w9 (HU.out.1.kept hb9) (HH8.out.dec.kept hb9) (by have := HU.out.2.2.2.2.1; omega) (by have := HH8.out.len; omega) (by have := HU.out.2.2.2.2.2.1; omega) (by have := HH8.out.dple; omega) HU.out.2.2.1 HH8.out.digs (fun _ => HH8.out.first))
        clear hc9 hb9 HCL
        have hc0 : ¬ c9 < 1 := by omega
        go_wp2_with fail
        refine HCH.out.mono ?_
        intro e w10 hc10
        obtain ⟨c10, rfl, hb10, hc3, hc4⟩ := cmp_high HD.out.1 HD.out.2.2.1 HD.out.2.2.2 hlt HU.out.2.2.2.2.2.2 HU.out.2.2.2.1 HH8.out.val HQH.out hc10
        have HBA : Hid (Below _ _ w10) := Lib.hid (HW8.out.trans ((HB9.out.trans (hb10.mono HB9.out.size)).mono HW8.out.size))
        clear hc10 hb10 HCH
        have hc5 : ¬ c10 < 1 := by omega
        go_wp2_with fail
        go_roundg (ds.length - (n + 1))
        case measure => omega
        case rel => exact ⟨n + 1, by go_num, by omega, rfl, Lib.hid (HBW.out.trans (HBA.out.mono HBW.out.size)), Lib.hid (HPH.out.kept HBA.out), Lib.hid (HPLW.out.kept HBA.out)⟩
      · have hj : ¬ ((n : Int) < (ds.length : Int)) := by omega
        go_wp2_with fail
        go_ret
        exact ⟨rfl, HBW.out⟩
  · skip
    have HPL := Lib.hid HP2.out
    go_wp2_with fail
    clear HN1 HN2 HN4 HSH HSH2 HC he1 he2 hs0 hsi hsj
    go_loopg [12] (ds.length) (fun gk s12 wr => ∃ n : Nat, s12 = .int .i64 n ∧ n ≤ ds.length ∧ gk = ds.length - n ∧ Hid (Below w.heap.size w wr) ∧ Hid (Pos wr D1 H1 hdp1 (2 * s + 1) (2 ^ K)) ∧ Hid (Pos wr D2 L2 dp2 (2 * s - 1) (2 ^ K)))
    case atStart => exact ⟨0, rfl, Nat.zero_le _, rfl, HB6, HP6, HPL⟩
    case round =>
      obtain ⟨n, rfl, hn, rfl, HBW, HPH, HPLW⟩ := hrel
      clear HB6 HP6 HPL HP2 f0 f1 f2
      have HA := Lib.hid (H.out.kept HBW.out)
      obtain ⟨a, c, c0, c1, -⟩ := HA.out.open
      by_cases hlt : n < ds.length
      · have hj : (n : Int) < (ds.length : Int) := by omega
        have hhl := half_len HD.out.2.2.2 HD.out.2.2.1 HD.out.1
        have HDN := Lib.hid (down_any b ds dp n _ HA.out hlt (by omega))
        go_wp2_with fail
        refine HDN.out.mono ?_
        rintro e w7 ⟨D7, cur, r, rfl, hcur, hdec, hb7, hlast7, -⟩
        have HCUR := Lib.hid (And.intro hcur (And.intro hdec (And.intro hb7 hlast7)))
        have HUP := Lib.hid (up_any b ds dp n w7 (HA.out.kept hb7) HD.out.1 hlt (by omega) (by omega) (by omega))
        clear hcur hdec hb7 hlast7 HDN c0 c1
        go_wp2_with fail
        refine HUP.out.mono ?_
        rintro e w8 ⟨D8, U, dpu, rfl, hU1, hU2, hU3, hU4, hU5, hU6, hU7⟩
        have HU := Lib.hid (And.intro hU1 (And.intro hU2 (And.intro hU3 (And.intro hU4 (And.intro hU5 (And.intro hU6 hU7))))))
        have HW8 : Hid (Below _ _ w8) := Lib.hid (HCUR.out.2.2.1.trans (hU2.mono HCUR.out.2.2.1.size))
        have HL8 := Lib.hid (HPLW.out.kept HW8.out)
        have HH8 := Lib.hid (HPH.out.kept HW8.out)
        have HCL := Lib.hid (cmp_any D2 D7 L2 cur dp2 (if cur = [] then 0 else (dp : Int)) w8 HL8.out.dec (HCUR.out.2.1.kept hU2) (by have := HL8.out.len; omega) (by have := congrArg List.length HCUR.out.1; simp at this; omega) (by have := HL8.out.dple; omega) (by split <;> omega) HL8.out.digs (fun d hd => HD.out.1 d (List.mem_of_mem_take (by rw [HCUR.out.1]; exact List.mem_append_left _ hd))) (cur_first HCUR.out.1 HD.out.2.1))
        clear hU1 hU2 hU3 hU4 hU5 hU6 hU7 HUP
        go_wp2_with fail
        refine HCL.out.mono ?_
        intro e w9 hc9
        obtain ⟨c9, rfl, hb9, hc1, hc2⟩ := cmp_low HD.out.1 HD.out.2.2.1 HD.out.2.2.2 hlt HCUR.out.1 HL8.out.val HL8.out.ne HQL.out hc9
        have HB9 := Lib.hid hb9
        have HCH := Lib.hid (cmp_any D8 D1 U H1 dpu hdp1 w9 (HU.out.1.kept hb9) (HH8.out.dec.kept hb9) (by have := HU.out.2.2.2.2.1; omega) (by have := HH8.out.len; omega) (by have := HU.out.2.2.2.2.2.1; omega) (by have := HH8.out.dple; omega) HU.out.2.2.1 HH8.out.digs (fun _ => HH8.out.first))
        clear hc9 hb9 HCL
        have hc0 : ¬ c9 < 0 := by omega
        go_wp2_with fail
        refine HCH.out.mono ?_
        intro e w10 hc10
        obtain ⟨c10, rfl, hb10, hc3, hc4⟩ := cmp_high HD.out.1 HD.out.2.2.1 HD.out.2.2.2 hlt HU.out.2.2.2.2.2.2 HU.out.2.2.2.1 HH8.out.val HQH.out hc10
        have HBA : Hid (Below _ _ w10) := Lib.hid (HW8.out.trans ((HB9.out.trans (hb10.mono HB9.out.size)).mono HW8.out.size))
        clear hc10 hb10 HCH
        have hc5 : ¬ c10 < 0 := by omega
        go_wp2_with fail
        go_roundg (ds.length - (n + 1))
        case measure => omega
        case rel => exact ⟨n + 1, by go_num, by omega, rfl, Lib.hid (HBW.out.trans (HBA.out.mono HBW.out.size)), Lib.hid (HPH.out.kept HBA.out), Lib.hid (HPLW.out.kept HBA.out)⟩
      · have hj : ¬ ((n : Int) < (ds.length : Int)) := by omega
        go_wp2_with fail
        go_ret
        exact ⟨rfl, HBW.out⟩
end Go.Proofs.Ytjpcdbopioblaaa
