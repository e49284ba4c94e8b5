/- 'half' of a decimal walked: division by a power of two. -/
import Derived.Test.YtjpcdbopioblaaaDecTrim
import Derived.Lib.BufSteps
import Derived.Laws.Bits64b
namespace Go.Proofs.Ytjpcdbopioblaaa
open Go.RowKit

/-- Digits as cells. -/
def dgCells (l : List Nat) : List Value := l.map fun d => Value.int .u8 (d : Nat)
theorem drow_of {B : Nat} {v : Value} {l : List Nat} {w : World} (h : w.ownsRowF B 5 1 v l.length (dgCells l)) : DRow w v l := by
  obtain ⟨hl, ⟨rfl, h0⟩ | ⟨g, cap, cur, fz, rfl, hb, hg, hf, hn, hc, hcs, htk⟩⟩ := h
  · have : l = [] := List.eq_nil_of_length_eq_zero h0
    subst this
    exact ⟨none, 0, rfl, Nat.le_refl _, fun j hj => absurd hj (by simp)⟩
  · refine ⟨_, cap, rfl, hn, fun j hj => ⟨g, rfl, ?_⟩⟩
    have h1 : (cur.toList.take (l.length * 1))[j]? = some (.int .u8 (l[j] : Nat)) := by
      rw [htk]; simp [dgCells, List.getElem?_eq_getElem hj]
    rw [List.getElem?_take_of_lt (by omega)] at h1
    simp only [World.cell?, hg]
    simpa using h1
theorem byteInfo : ∃ i : TypeInfo, Try.prog.info? 5 = some i ∧ i.zero = some (.int .u8 0) ∧ i.size = 1 ∧ i.bytes = 1 := by
  have hinfo : (Try.prog.info? 5).map (fun i => (i.zero, i.size, i.bytes)) = some (some (Value.int IntKind.u8 0), 1, 1) := by kernel_rfl
  obtain ⟨i, hi, he⟩ := Option.map_eq_some_iff.1 hinfo
  simp only [Prod.mk.injEq] at he
  exact ⟨i, hi, he.1, he.2.1, he.2.2⟩
theorem DecAt.put {W : World} {b : Nat} {ds ds' : List Nat} {dp : Int} {v : Value} (h : DecAt W b ds dp) (hv : DRow W v ds') (hne : ∀ g, v.ownBlock = some g → g ≠ b) : DecAt (W.setCell ⟨b, 0, none⟩ v) b ds' dp := by
  obtain ⟨v0, hb, _⟩ := h
  obtain ⟨a, c, rfl, hle, hr⟩ := hv
  refine ⟨.slice a ds'.length c, by simpa using Lib.heap_setCell_same hb (i := 0) (.slice a ds'.length c), a, c, rfl, hle, fun j hj => ?_⟩
  obtain ⟨g, rfl, hg⟩ := hr j hj
  refine ⟨g, rfl, ?_⟩
  have hgb := hne g rfl
  rw [World.cell?_setCell_other _ _ _ _ (by intro e; injection e with e; exact hgb e.symm), hg]
theorem DecAt.setDp {W : World} {b : Nat} {ds : List Nat} {dp : Int} (h : DecAt W b ds dp) (dp' : Int) : DecAt (W.setCell ⟨b, 1, none⟩ (.int .i64 dp')) b ds dp' := by
  obtain ⟨v0, hb, a, c, rfl, hle, hr⟩ := h
  refine ⟨_, by simpa using Lib.heap_setCell_same hb (i := 1) (.int .i64 dp'), a, c, rfl, hle, fun j hj => ?_⟩
  obtain ⟨g, rfl, hg⟩ := hr j hj
  refine ⟨g, rfl, ?_⟩
  have hne : (⟨b, 1, none⟩ : Addr) ≠ ⟨g, j, none⟩ := by
    intro e
    simp at e
    obtain ⟨rfl, rfl⟩ := e
    simp [World.cell?, hb] at hg
  rw [World.cell?_setCell_other _ _ _ _ hne, hg]

theorem u64w (x : Nat) (h : x < 18446744073709551616) : IntKind.u64.wrap (x : Int) = (x : Int) := IntWalk.u64_in _ (by omega)
/-- What the mask leaves, times ten. -/
theorem mask_facts (n k : Nat) (hn : n < 10 * 2 ^ k) (hk : k ≤ 59) : IntKind.u64.wrap (bits .and .u64 (n : Int) (IntKind.u64.wrap (IntKind.u64.wrap (2 ^ k) - 1)) * 10) = ((n % 2 ^ k * 10 : Nat) : Int) := by
  have hP : 2 ^ k ≤ 576460752303423488 := Nat.le_trans (Nat.pow_le_pow_right (by decide) hk) (by decide)
  have hP0 : 0 < 2 ^ k := Nat.pow_pos (by decide)
  have hm : n % 2 ^ k < 2 ^ k := Nat.mod_lt _ hP0
  have e1 : IntKind.u64.wrap ((2 : Int) ^ k) = ((2 ^ k : Nat) : Int) := by
    rw [show (2 : Int) ^ k = ((2 ^ k : Nat) : Int) by simp]
    exact u64w _ (by omega)
  have e2 : ((2 ^ k : Nat) : Int) - 1 = ((2 ^ k - 1 : Nat) : Int) := by omega
  have e3 : IntKind.u64.wrap ((2 ^ k - 1 : Nat) : Int) = ((2 ^ k - 1 : Nat) : Int) := u64w _ (by omega)
  rw [e1, e2, e3, bits_and_u64_nat n (2 ^ k - 1) (by omega) (by omega), Nat.and_two_pow_sub_one_eq_mod]
  have e4 : ((n % 2 ^ k : Nat) : Int) * 10 = ((n % 2 ^ k * 10 : Nat) : Int) := by simp
  rw [e4]
  exact u64w _ (by omega)
theorem own_snoc {B : Nat} {v : Value} {out : List Nat} {q : Nat} {x : Int} {W0 w : World} (hq : (q : Int) = x) (h : Lib.OwnBuf B 5 v (out.length + 1) (dgCells out ++ [.int .u8 x]) W0 w) : Lib.OwnBuf B 5 v (out ++ [q]).length (dgCells (out ++ [q])) W0 w := by
  have e : dgCells (out ++ [q]) = dgCells out ++ [.int .u8 x] := by simp [dgCells, hq]
  rw [e, List.length_append]
  exact h
theorem half_grown {w W1 wx : World} {b : Nat} {v : Value} (h : w.grownBy W1 (some b)) (hB : Below W1.heap.size W1 wx) (_hz : W1.heap.size ≤ wx.heap.size) : w.grownBy (wx.setCell ⟨b, 0, none⟩ v) (some b) := gb_set (gb_below h hB) 0 v
theorem DVal.trims {ds : List Nat} {dp num den : Nat} : ∀ r, DVal (ds ++ List.replicate r 0) dp num den → DVal ds dp num den
  | 0, h => by simpa using h
  | r + 1, h => by
    rw [List.replicate_succ', ← List.append_assoc] at h
    exact DVal.trims r h.trim
theorem half_end {ds out cur : List Nat} {dp k j i r : Nat} {W : World} {b : Nat} (h : HB ds k (j + 1) i 0 out) (hk : 0 < 2 ^ k) (hi : ¬ ((i : Int) < (ds.length : Int))) (hj : j ≤ dp) (hcur : out = cur ++ List.replicate r 0)
    (hlast : cur ≠ [] → cur.getD (cur.length - 1) 0 ≠ 0) (hdec : DecAt W b cur (if cur = [] then 0 else (dp : Int) - (j : Int))) :
    DecAt W b cur (dp - j : Nat) ∧ Digs cur ∧ cur ≠ [] ∧ cur.getD 0 0 ≠ 0 ∧ cur.getD (cur.length - 1) 0 ≠ 0 ∧ ∀ num den, DVal ds dp num den → DVal cur (dp - j) num (den * 2 ^ k) := by
  have hne : out ≠ [] := fun e => by have := h.none e; omega
  have hf := h.first hne
  have hcn : cur ≠ [] := fun e => by
    rw [hcur, e, List.nil_append] at hf
    cases r with
    | zero => simp at hf
    | succ r => simp [List.replicate_succ] at hf
  have hpos : 0 < cur.length := List.length_pos_iff.2 hcn
  have hf2 : cur.getD 0 0 ≠ 0 := by
    rw [hcur, List.getD_eq_getElem?_getD, List.getElem?_append_left hpos, ← List.getD_eq_getElem?_getD] at hf
    exact hf
  have e : ((dp - j : Nat) : Int) = (dp : Int) - (j : Int) := by omega
  rw [if_neg hcn] at hdec
  refine ⟨by rw [e]; exact hdec, fun d hd => h.digs d (by rw [hcur]; simp [hd]), hcn, hf2, hlast hcn, fun num den hv => ?_⟩
  have h1 := hv.half (k := k) (i := i) (i0 := j + 1) (out := out) (by omega) (by have := h.eq; omega) h.len (by omega)
  have e2 : dp + 1 - (j + 1) = dp - j := by omega
  rw [e2, hcur] at h1
  exact DVal.trims r h1
def HalfPost (b : Nat) (ds : List Nat) (dp k : Nat) (w : World) (e : Ending) (w' : World) : Prop := ∃ (out : List Nat) (dp' : Nat), e = .returned (.tuple #[]) ∧ DecAt w' b out dp' ∧ w.grownBy w' (some b) ∧ Digs out ∧ out ≠ [] ∧ out.getD 0 0 ≠ 0 ∧ out.getD (out.length - 1) 0 ≠ 0 ∧ out.length ≤ ds.length + k + 1 ∧ dp' ≤ dp + 1 ∧ ∀ num den, DVal ds dp num den → DVal out dp' num (den * 2 ^ k)
set_option maxRecDepth 100000 in
set_option maxHeartbeats 3200000 in
theorem half_any (b : Nat) (ds : List Nat) (dp k : Nat) (w : World) (h : DecAt w b ds dp) (hd : Digs ds) (hne : 0 < numL ds) (hbig : 2 ^ k ≤ numP ds (dp + 1)) (hk : k ≤ 59) (hl : ds.length ≤ 1000) (hdp : dp ≤ 1000) :
    Calls Try.prog 29 #[.pointer (some ⟨b, 0, none⟩), .int .i64 k] w (HalfPost b ds dp k w) := by
  have H := Lib.hid h
  have HD := Lib.hid (And.intro hd (And.intro hne hbig))
  have hP : 2 ^ k ≤ 576460752303423488 := Nat.le_trans (Nat.pow_le_pow_right (by decide) hk) (by decide)
  have hP0 : 0 < 2 ^ k := Nat.pow_pos (by decide)
  clear h hd hne hbig
  unfold HalfPost
  go_enter Try.func29, Try.ntmps29
  go_wp2_with fail
  go_loopg [4, 5] (dp + 2) (fun gk s4 s5 wr => ∃ i : Nat, s4 = .int .u64 (numP ds i) ∧ s5 = .int .i64 i ∧ i ≤ dp + 1 ∧ gk = dp + 2 - i ∧ wr = w ∧ Hid (i = 0 ∨ numP ds (i - 1) < 2 ^ k))
  case atStart => exact ⟨0, rfl, rfl, Nat.zero_le _, rfl, rfl, Lib.hid (.inl rfl)⟩
  case round =>
    obtain ⟨i, rfl, rfl, hi, rfl, rfl, HI⟩ := hrel
    have HN : Hid (numP ds (i + 1) = 10 * numP ds i + ds.getD i 0) := Lib.hid rfl
    have HPW : Hid (((2 ^ k : Nat) : Int) = 2 ^ k) := Lib.hid (by simp)
    obtain ⟨a, c, c0, c1, hcell⟩ := H.out.open
    by_cases hlt : numP ds i < 2 ^ k
    · have e0 : (((numP ds i : Nat) : Int) / 2 ^ k == 0) = true := by
        rw [← HPW.out, ← Int.natCast_ediv, Nat.div_eq_of_lt hlt]; rfl
      have HLT := Lib.hid hlt
      have hi2 : Hid (i ≤ dp) := Lib.hid (by
        refine Classical.byContradiction fun hh => ?_
        have : i = dp + 1 := by omega
        rw [this] at hlt
        have := HD.out.2.2
        omega)
      have hb1 : numP ds i ≤ 576460752303423487 := by omega
      by_cases hil : i < ds.length
      · obtain ⟨g, rfl, hg⟩ := hcell i hil
        have hj : (i : Int) < (ds.length : Int) := by omega
        have hj2 : ¬ ((ds.length : Int) ≤ (i : Int)) := by omega
        have e : ds.getD i 0 = ds[i] := by rw [List.getD_eq_getElem?_getD, List.getElem?_eq_getElem hil]; rfl
        have hdg := HD.out.1.getD i
        rw [e] at HN hdg
        have HNX : Hid (numP ds i < 2 ^ k → i + 1 = 0 ∨ numP ds (i + 1 - 1) < 2 ^ k) := Lib.hid fun h => .inr h
        generalize ds[i] = d at *
        generalize numP ds i = N at *
        clear hcell hlt e
        go_wp2_with fail
        go_roundg (dp + 2 - (i + 1))
        case measure => omega
        case rel => exact ⟨i + 1, by rw [HN.out]; congr 1; omega, by go_num, by have := hi2.out; omega, rfl, rfl, Lib.hid (HNX.out HLT.out)⟩
      · have hj : ¬ ((i : Int) < (ds.length : Int)) := by omega
        have hj2 : (ds.length : Int) ≤ (i : Int) := by omega
        have e : ds.getD i 0 = 0 := by rw [List.getD_eq_getElem?_getD, List.getElem?_eq_none (by omega)]; rfl
        have hpos : 0 < numP ds i := by
          have h1 := numP_far ds (i := ds.length) (t := i - ds.length) (Nat.le_refl _)
          have h2 : ds.length + (i - ds.length) = i := by omega
          rw [h2, numP_all] at h1
          rw [h1]
          exact Nat.mul_pos HD.out.2.1 (Nat.pow_pos (by decide))
        have eN : (((numP ds i : Nat) : Int) == 0) = false := beq_eq_false_iff_ne.2 (by omega)
        rw [e] at HN
        have HNX : Hid (numP ds i < 2 ^ k → i + 1 = 0 ∨ numP ds (i + 1 - 1) < 2 ^ k) := Lib.hid fun h => .inr h
        generalize numP ds i = N at *
        clear hcell hlt e hpos
        go_wp2_with fail
        go_roundg (dp + 2 - (i + 1))
        case measure => omega
        case rel => exact ⟨i + 1, by rw [HN.out]; congr 1; omega, by go_num, by have := hi2.out; omega, rfl, rfl, Lib.hid (HNX.out HLT.out)⟩
    · have e0 : (((numP ds i : Nat) : Int) / 2 ^ k == 0) = false := by
        rw [← HPW.out, ← Int.natCast_ediv]
        have : 0 < numP ds i / 2 ^ k := Nat.div_pos (by omega) hP0
        exact beq_eq_false_iff_ne.2 (by omega)
      obtain ⟨j, rfl⟩ : ∃ j, i = j + 1 := by
        cases i with
        | zero => exact absurd hP0 hlt
        | succ j => exact ⟨j, rfl⟩
      have hprev : numP ds j < 2 ^ k := by
        rcases HI.out with h | h
        · omega
        · exact h
      have HB0 := Lib.hid (HB.start HD.out.1 HD.out.2.1 hprev (by omega))
      have f1 := H.out.fr 1
      have H1 := Lib.hid (H.out.setDp ((dp : Int) - (j : Int)))
      have HG1 := Lib.hid (gb_set (World.grownBy.refl wr (some b)) 1 (.int .i64 ((dp : Int) - (j : Int))))
      have hjd : (j : Int) ≤ (dp : Int) := by omega
      have hN : numP ds (j + 1) < 10 * 2 ^ k := numP_next HD.out.1 hprev
      clear hcell hprev HI HN hlt
      have HNN := Lib.hid hN
      clear hN
      generalize numP ds (j + 1) = N at *
      go_wp2_with fail
      generalize wr.setCell ⟨b, 1, none⟩ (.int .i64 ((dp : Int) - (j : Int))) = W1 at *
      have HOW : Hid (Lib.OwnBuf W1.heap.size 5 (.slice none 0 0) 0 (dgCells []) W1 W1) := Lib.hid ⟨World.ownsRowF_nil _ _ _ _, Below.refl _ _, Nat.le_refl _⟩
      obtain ⟨ti, hti, hz0, hz1, hz2⟩ := byteInfo
      have HTI := Lib.hid (And.intro hti (And.intro hz0 (And.intro hz1 hz2)))
      clear hti hz0 hz1 hz2
      go_loopg [4, 5, 6] (ds.length + k + 3) (fun gk s4 s5 s6 wx => ∃ (i n : Nat) (out : List Nat) (v : Value), s4 = .int .u64 n ∧ s5 = .int .i64 i ∧ s6 = v ∧ gk = ds.length + k + 3 + (j + 1) - i ∧ Hid (HB ds k (j + 1) i n out) ∧ Hid (Lib.OwnBuf W1.heap.size 5 v out.length (dgCells out) W1 wx) ∧ Hid (out.length ≤ ds.length + k + 1))
      case atStart => exact ⟨j + 1, N, [], _, rfl, rfl, rfl, by omega, HB0, HOW, Lib.hid (by simp)⟩
      case round =>
        obtain ⟨i, n, out, v, rfl, rfl, rfl, rfl, HB, HO, HLE⟩ := hrel
        clear HOW HB0
        have H2 := Lib.hid (H1.out.kept HO.out.2.1)
        obtain ⟨a, c, c0, c1, hcell⟩ := H2.out.open
        have hn64 : n < 10 * 2 ^ k := HB.out.lt
        have hq10 : n / 2 ^ k < 10 := Nat.div_lt_of_lt_mul (by rw [Nat.mul_comm] at hn64; exact hn64)
        have HQ : Hid ((((n / 2 ^ k : Nat)) : Int) = (n : Int) / 2 ^ k) := Lib.hid (by rw [← HPW.out, Int.natCast_ediv])
        by_cases hgo : i < ds.length ∨ 0 < n
        · have hbd := HB.out.bound hgo
          have HST := Lib.hid (HB.out.step HD.out.1)
          have hq1 : (0 : Int) ≤ (n : Int) / 2 ^ k := by rw [← HQ.out]; exact Int.natCast_nonneg _
          have hq2 : (n : Int) / 2 ^ k < 10 := by rw [← HQ.out]; exact Int.ofNat_lt.2 hq10
          have HLN : Hid (out.length + 1 ≤ 140737488355328) := Lib.hid (by have := HB.out.len; omega)
          have HLE2 : Hid ((out ++ [n / 2 ^ k]).length ≤ ds.length + k + 1) := Lib.hid (by have := HB.out.len; simp; omega)
          have hmk := mask_facts n k hn64 hk
          have hr : n % 2 ^ k < 2 ^ k := Nat.mod_lt _ hP0
          have hrb : n % 2 ^ k * 10 ≤ 5764607523034234870 := by omega
          generalize n % 2 ^ k * 10 = R at *
          clear hr hq10
          by_cases hil : i < ds.length
          · obtain ⟨g, rfl, hg⟩ := hcell i hil
            have hj : (i : Int) < (ds.length : Int) := by omega
            have e : ds.getD i 0 = ds[i] := by rw [List.getD_eq_getElem?_getD, List.getElem?_eq_getElem hil]; rfl
            have hdg := HD.out.1.getD i
            rw [e] at HST hdg
            go_wp2_with (at_builtin; refine Lib.wpList_append_byte rfl _ _ 25 rfl W1.heap.size 5 ti Try.underlying25 HTI.out.1 HTI.out.2.1 HTI.out.2.2.1 HTI.out.2.2.2 u6 out.length (dgCells out) rfl W1 _ ((n : Int) / 2 ^ k) HO.out rfl HLN.out ?_; intro v' w3 ho3; have HO3 := Lib.hid ho3; have H3 := Lib.hid (H1.out.kept ho3.2.1); obtain ⟨a3, c3, d0, d1, dcell⟩ := H3.out.open; obtain ⟨g3, rfl, hg3⟩ := dcell i hil; clear ho3 dcell)
            go_roundg (ds.length + k + 3 + (j + 1) - (i + 1))
            case measure => omega
            case rel => exact ⟨i + 1, R + ds[i], out ++ [n / 2 ^ k], _, by simp, by go_num, rfl, rfl, HST, Lib.hid (own_snoc HQ.out HO3.out), HLE2⟩
          · have hj : ¬ ((i : Int) < (ds.length : Int)) := by omega
            have hgt : (0 : Int) < (n : Int) := by omega
            have e : ds.getD i 0 = 0 := by rw [List.getD_eq_getElem?_getD, List.getElem?_eq_none (by omega)]; rfl
            rw [e, Nat.add_zero] at HST
            go_wp2_with (at_builtin; refine Lib.wpList_append_byte rfl _ _ 25 rfl W1.heap.size 5 ti Try.underlying25 HTI.out.1 HTI.out.2.1 HTI.out.2.2.1 HTI.out.2.2.2 u6 out.length (dgCells out) rfl W1 _ ((n : Int) / 2 ^ k) HO.out rfl HLN.out ?_; intro v' w3 ho3; have HO3 := Lib.hid ho3; have H3 := Lib.hid (H1.out.kept ho3.2.1); obtain ⟨a3, c3, d0, d1, dcell⟩ := H3.out.open; clear ho3 dcell)
            go_roundg (ds.length + k + 3 + (j + 1) - (i + 1))
            case measure => omega
            case rel => exact ⟨i + 1, R, out ++ [n / 2 ^ k], _, rfl, by go_num, rfl, rfl, HST, Lib.hid (own_snoc HQ.out HO3.out), HLE2⟩
        · have hj : ¬ ((i : Int) < (ds.length : Int)) := by omega
          have hn0 : n = 0 := by omega
          subst hn0
          obtain ⟨a6, c6, hu6, -, -⟩ := drow_of HO.out.1
          subst hu6
          have f0 := H2.out.fr 0
          have HDR := Lib.hid (H2.out.put (drow_of HO.out.1) (fun g hg => by have h1 := (HO.out.1.lt g hg).1; have h2 := H1.out.lt; omega))
          have HGR := Lib.hid (half_grown HG1.out HO.out.2.1 HO.out.2.2 (b := b) (v := .slice a6 out.length c6))
          have HLE3 : Hid (out.length ≤ 100000) := Lib.hid (by have := HLE.out; omega)
          clear hn64 hq10 HQ hcell
          go_wp2_with fail
          refine (trim_any b out _ _ HDR.out HLE3.out).mono ?_
          rintro e w4 ⟨cur, r, hcur, hlast, rfl, hdec, hg4⟩
          have HF := Lib.hid (half_end HB.out hP0 (by omega) (by omega) hcur hlast hdec)
          have HG4 := Lib.hid (gb_trans HGR.out hg4)
          have HL4 : Hid (cur.length ≤ ds.length + k + 1) := Lib.hid (by have h1 := congrArg List.length hcur; have h2 := HLE.out; simp at h1; omega)
          clear hcur hlast hdec hg4
          go_wp2_with fail
          go_end0
          obtain ⟨h1, h2, h3, h4, h5, h6⟩ := HF.out
          exact ⟨cur, dp - j, rfl, h1, HG4.out, h2, h3, h4, h5, HL4.out, by omega, h6⟩
end Go.Proofs.Ytjpcdbopioblaaa
