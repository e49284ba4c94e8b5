/- .[i] of a list walked: impl.IndexList. -/
import Derived.Test.YtjpcdbopioblaaaDoorFromGoAll
namespace Go.Proofs.YtjpcdbopioblaaaDoor
open Go.RowKit

theorem clamp_get (i : Int) (j n : Nat) (h : i = j ∨ i + n = j) (hj : j < n) (hn : n ≤ 1000000) (w : World) :
    Calls Tryd.prog 89 #[.int .i64 i, .int .i64 (-1), .int .i64 n] w fun e w' => e = .returned (.int .i64 j) ∧ w' = w := by
  by_cases h0 : 0 ≤ i
  · obtain rfl : i = j := by omega
    have c1 : ¬ ((j : Int) < 0) := by omega
    have c2 : ¬ ((j : Int) < -1) := by omega
    have c3 : (j : Int) < (n : Int) := by omega
    clear h h0
    go_enter Tryd.func89, Tryd.ntmps89
    go_wp2_with fail
    go_ret
    exact ⟨rfl, rfl⟩
  · have c1 : i < 0 := by omega
    have e : i + (n : Int) = (j : Int) := by omega
    have c0 : -1000000 ≤ i := by omega
    have c2 : ¬ ((j : Int) < -1) := by omega
    have c3 : (j : Int) < (n : Int) := by omega
    have ew : IntKind.i64.wrap (i + (n : Int)) = (j : Int) := by rw [e]; exact IntWalk.i64_in _ (by omega)
    clear h h0
    go_enter Tryd.func89, Tryd.ntmps89
    go_wp2_with fail
    go_ret
    exact ⟨rfl, rfl⟩
theorem clamp_hi (i : Int) (n : Nat) (h : (n : Int) ≤ i) (w : World) :
    Calls Tryd.prog 89 #[.int .i64 i, .int .i64 (-1), .int .i64 n] w fun e w' => e = .returned (.int .i64 n) ∧ w' = w := by
  have c1 : ¬ (i < 0) := by omega
  have c2 : ¬ (i < -1) := by omega
  have c3 : ¬ (i < (n : Int)) := by omega
  clear h
  go_enter Tryd.func89, Tryd.ntmps89
  go_wp2_with fail
  go_ret
  exact ⟨rfl, rfl⟩
theorem clamp_lo (i : Int) (n : Nat) (h : i < -(n : Int)) (hi : I64 i) (hn : n ≤ 1000000) (w : World) :
    Calls Tryd.prog 89 #[.int .i64 i, .int .i64 (-1), .int .i64 n] w fun e w' => e = .returned (.int .i64 (-1)) ∧ w' = w := by
  unfold I64 at hi
  have c1 : i < 0 := by omega
  have ew : IntKind.i64.wrap (i + (n : Int)) = i + (n : Int) := IntWalk.i64_in _ (by omega)
  by_cases c2 : i + (n : Int) < -1
  · go_enter Tryd.func89, Tryd.ntmps89
    go_wp2_with fail
    go_ret
    exact ⟨rfl, rfl⟩
  · have HE := Lib.hid (show i + (n : Int) = -1 by omega)
    have c3 : i + (n : Int) < (n : Int) := by omega
    go_enter Tryd.func89, Tryd.ntmps89
    go_wp2_with fail
    go_ret
    exact ⟨by rw [HE.out]; rfl, rfl⟩

set_option maxRecDepth 100000 in
theorem index_get (i : Int) (j n c b o : Nat) (x : Value) (h : i = j ∨ i + n = j) (hj : j < n) (hn : n ≤ 1000000) (w : World) (hc : w.cell? ⟨b, o + j, none⟩ = some x) :
    Calls Tryd.prog 76 #[.slice (some ⟨b, o, none⟩) n c, .int .i64 i] w fun e w' => e = .returned x ∧ w' = w := by
  have HC := Lib.hid (fun wx => clamp_get i j n h hj hn wx)
  have c1 : (j : Int) < (n : Int) := by omega
  clear h
  go_enter Tryd.func76, Tryd.ntmps76
  go_wp2_with (go_at_call 89; refine (HC.out _).mono ?_; rintro e w1 ⟨rfl, rfl⟩)
  go_ret
  exact ⟨rfl, rfl⟩
theorem index_none (i : Int) (n c : Nat) (a : Option Addr) (h : (n : Int) ≤ i ∨ i < -(n : Int)) (hi : I64 i) (hn : n ≤ 1000000) (w : World) :
    Calls Tryd.prog 76 #[.slice a n c, .int .i64 i] w fun e w' => e = .returned .nilIface ∧ w' = w := by
  by_cases h0 : (n : Int) ≤ i
  · have HC := Lib.hid (fun wx => clamp_hi i n h0 wx)
    clear h h0
    go_enter Tryd.func76, Tryd.ntmps76
    go_wp2_with (go_at_call 89; refine (HC.out _).mono ?_; rintro e w1 ⟨rfl, rfl⟩)
    go_ret
    exact ⟨rfl, rfl⟩
  · have HC := Lib.hid (fun wx => clamp_lo i n (by omega) hi hn wx)
    clear h h0
    go_enter Tryd.func76, Tryd.ntmps76
    go_wp2_with (go_at_call 89; refine (HC.out _).mono ?_; rintro e w1 ⟨rfl, rfl⟩)
    go_ret
    exact ⟨rfl, rfl⟩

/-- The element at a place, counted from the end where the place is below 0; null where there is none. -/
def nullT : RV := .mk 0 0 ByteArray.empty [] [] []
def placeOf (i : Int) (n : Nat) : Option Nat := if 0 ≤ i ∧ i < n then some i.toNat else if i < 0 ∧ -(n : Int) ≤ i then some (i + n).toNat else none
def pickI (l : List RV) (i : Int) : RV := match placeOf i l.length with
  | some j => l.getD j nullT
  | none => nullT

theorem pickI_some {l : List RV} {i : Int} {j : Nat} (h : i = j ∨ i + l.length = j) (hj : j < l.length) : pickI l i = l[j] := by
  have e : placeOf i l.length = some j := by
    unfold placeOf
    by_cases h0 : 0 ≤ i
    · rw [if_pos ⟨h0, by omega⟩]; congr 1; omega
    · rw [if_neg (by omega), if_pos ⟨by omega, by omega⟩]; congr 1; omega
  unfold pickI
  rw [e]
  simp [hj]
theorem pickI_none {l : List RV} {i : Int} (h : (l.length : Int) ≤ i ∨ i < -(l.length : Int)) : pickI l i = nullT := by
  have e : placeOf i l.length = none := by
    unfold placeOf
    rw [if_neg (by omega), if_neg (by omega)]
  unfold pickI
  rw [e]
theorem nullT_good : nullT.Good := by
  unfold nullT RV.Good
  exact ⟨by decide, by decide, .inr rfl, .inr rfl, .inr rfl, .inr rfl, rfl, by decide, by decide, .inl rfl, by decide, by unfold RV.GoodL; trivial, by simp, by intro i hi; simp at hi, by unfold RV.GoodL; trivial⟩
theorem nullT_go (w : World) (base : Nat) : nullT.Go w base .nilIface := by unfold nullT RV.Go; exact .inl ⟨rfl, rfl⟩
theorem place_cases (i : Int) (n : Nat) : (∃ j : Nat, (i = (j : Int) ∨ i + n = (j : Int)) ∧ j < n) ∨ ((n : Int) ≤ i ∨ i < -(n : Int)) := by
  by_cases h : (n : Int) ≤ i ∨ i < -(n : Int)
  · exact .inr h
  · left
    by_cases h0 : 0 ≤ i
    · exact ⟨i.toNat, .inl (by omega), by omega⟩
    · exact ⟨(i + n).toNat, .inr (by omega), by omega⟩

def GoOut (y : RV) (w : World) (base : Nat) (e : Ending) (w' : World) : Prop := ∃ x, e = .returned x ∧ y.Go w' base x ∧ w' = w
/-- What index gives of a list of the program's. -/
theorem zzIndex_any (l : List RV) (a : Option Addr) (c : Nat) (i : Int) (hi : I64 i) (hl : l.length ≤ 1000000) (w : World) (base : Nat) (hg : RV.GoL w base a 0 l) :
    Calls Tryd.prog 49 #[.slice a l.length c, .int .i64 i] w (GoOut (pickI l i) w base) := by
  have key : ∀ x, (pickI l i).Go w base x → Calls Tryd.prog 76 #[.slice a l.length c, .int .i64 i] w (fun e w' => e = .returned x ∧ w' = w) →
      Calls Tryd.prog 49 #[.slice a l.length c, .int .i64 i] w (GoOut (pickI l i) w base) := fun x hx hc => by
    refine Calls.mono (R := fun e w' => e = .returned x ∧ w' = w) ?_ (fun e w' h => ⟨x, h.1, h.2 ▸ hx, h.2⟩)
    have HC := Lib.hid hc
    clear hc hx hg
    go_enter Tryd.func49, Tryd.ntmps49
    go_wp2_with (go_at_call 76; refine HC.out.mono ?_; rintro e w1 ⟨rfl, rfl⟩)
    go_ret
    exact ⟨rfl, rfl⟩
  rcases place_cases i l.length with ⟨j, hj, hjl⟩ | hn
  · obtain ⟨b, o, x, rfl, _, hc, hx⟩ := hg.get j hjl
    rw [Nat.zero_add] at hc
    rw [← pickI_some hj hjl] at hx
    exact key x hx (index_get i j l.length c b o x hj hjl hl w hc)
  · exact key .nilIface (by rw [pickI_none hn]; exact nullT_go w base) (index_none i l.length c a hn hi hl w)

/-- A list as a value. -/
def listT (l : List RV) : RV := .mk 5 0 ByteArray.empty l [] []
theorem listT_good {l : List RV} (h : RV.GoodL l) : (listT l).Good := by
  unfold listT RV.Good
  exact ⟨by decide, by decide, .inr rfl, .inr rfl, .inl rfl, .inr rfl, rfl, by decide, by decide, .inl rfl, by decide, h, by simp, by intro i hi; simp at hi, by unfold RV.GoodL; trivial⟩
theorem listT_nodes (l : List RV) : (listT l).nodes = 1 + RV.nodesL l := by simp [listT, RV.nodes, RV.nodesL]
theorem listT_bytes (l : List RV) : (listT l).bytes = RV.bytesL l := by
  have : ByteArray.empty.size = 0 := rfl
  simp [listT, RV.bytes, RV.bytesL, keysSize, this]
theorem listT_sized {l : List RV} (h1 : RV.nodesL l ≤ 99999) (h2 : RV.bytesL l ≤ 100000) : (listT l).Sized :=
  ⟨by rw [listT_nodes]; omega, by rw [listT_bytes]; exact h2⟩
theorem nullT_sized : nullT.Sized := by
  have : ByteArray.empty.size = 0 := rfl
  exact ⟨by simp [nullT, RV.nodes, RV.nodesL], by simp [nullT, RV.bytes, RV.bytesL, keysSize, this]⟩
theorem sized_get {l : List RV} (h1 : RV.nodesL l ≤ 99999) (h2 : RV.bytesL l ≤ 100000) (j : Nat) (h : j < l.length) : l[j].Sized :=
  (listT_sized h1 h2).part.1 j h
theorem pickI_ok {l : List RV} {i : Int} (hg : RV.GoodL l) (h1 : RV.nodesL l ≤ 99999) (h2 : RV.bytesL l ≤ 100000) : (pickI l i).Good ∧ (pickI l i).Sized := by
  rcases place_cases i l.length with ⟨j, hj, hjl⟩ | hn
  · rw [pickI_some hj hjl]; exact ⟨hg.get j hjl, sized_get h1 h2 j hjl⟩
  · rw [pickI_none hn]; exact ⟨nullT_good, nullT_sized⟩

set_option maxRecDepth 100000 in
set_option maxHeartbeats 1600000 in
theorem implIndexList_any (l : List RV) (i : Int) (v : Value) (w : World) (hi : I64 i) (hg : RV.GoodL l) (hn : RV.nodesL l ≤ 400) (hb : RV.bytesL l ≤ 100000) (hr : (listT l).Rep w v) :
    Calls Tryd.prog 25 #[v, .int .i64 i] w (ResPost (pickI l i) w) := by
  unfold listT RV.Rep at hr
  obtain ⟨al, cl, ak, ck, av, cv, rfl, _, _, _, _, _, _, hrl, _⟩ := hr
  have hlen : l.length ≤ 400 := Nat.le_trans (RV.len_le l) hn
  have HT := Lib.hid (fun wx (hbw : Below w.heap.size w wx) => listToGo_any 400 (fun x v w h1 h2 h3 => toGo_any 400 (Nat.le_refl _) x v w h1 h2 h3) l al cl wx hn hg (RV.RepL.below hbw hrl) hlen)
  have HN := Lib.hid (fun wx base a c (h : RV.GoL wx base a 0 l) => zzIndex_any l a c i hi (by omega) wx base h)
  have hok := pickI_ok (i := i) hg (by omega) hb
  have HR := Lib.hid (fun wx base x (h : (pickI l i).Go wx base x) => result_all (pickI l i) x wx base hok.1 hok.2 h)
  have HB := Lib.hid (fun o o' => ((Below.refl w.heap.size w).alloc (Nat.le_refl _) o).alloc (by simp) o')
  clear hrl hok
  unfold ResPost
  generalize pickI l i = T at HN HR ⊢
  go_enter Tryd.func25, Tryd.ntmps25
  go_wp2_with fail
  refine (HT.out _ (HB.out _ _)).mono ?_
  rintro e w1 ⟨a', cap', rfl, hx, hb1⟩
  have HX := Lib.hid hx
  have HB1 := Lib.hid ((HB.out _ _).trans (hb1.mono (by simp; omega)))
  obtain ⟨hc1', hf1'⟩ := bcell hb1
  have hz1 := hb1.size
  simp at hz1
  clear hb1 hx
  have hy0 : w.heap.size < w1.heap.size := by omega
  have hy1 : w.heap.size + 1 < w1.heap.size := by omega
  have hc0 := fun o => hc1' w.heap.size o (by simp; omega)
  have hc1 := fun o => hc1' (w.heap.size + 1) o (by simp)
  have hf1 := fun o => hf1' (w.heap.size + 1) o (by simp)
  clear hc1' hf1'
  go_wp2_with fail
  refine (HN.out _ _ _ _ HX.out).mono ?_
  rintro e w2 ⟨x, rfl, hgo, rfl⟩
  have HGO := Lib.hid hgo
  clear hgo
  go_wp2_with fail
  refine (HR.out _ _ _ HGO.out).mono ?_
  rintro e w3 ⟨r, rfl, hr, hb3⟩
  have hsh := hr.shape
  have HRR := Lib.hid hr
  have HB3 := Lib.hid (HB1.out.trans (hb3.mono HB1.out.size))
  obtain ⟨hc3', hf3'⟩ := bcell hb3
  have hc3 := fun o => hc3' (w.heap.size + 1) o hy1
  have hf3 := fun o => hf3' (w.heap.size + 1) o hy1
  clear hc3' hf3' hb3 hr
  obtain ⟨rk, rh, rt, ral, rn, rcl, rak, rm, rck, rav, rq, rcv, rfl⟩ := hsh
  go_wp2_with fail
  refine bodyPost_ret (v := .agg #[.int .i64 rk, .int .i64 rh, .string rt, .slice ral rn rcl, .slice rak rm rck, .slice rav rq rcv, .int .i64 0]) (by rw [results_cell rfl]; go_simp) rfl ?_
  have fin : ∀ wx, w3.grownBy wx (some (w.heap.size + 1)) → (∃ r, Ending.returned (.agg #[.int .i64 rk, .int .i64 rh, .string rt, .slice ral rn rcl, .slice rak rm rck, .slice rav rq rcv, .int .i64 0]) = Ending.returned r ∧ ResHere w.heap.size T wx r ∧ Below w.heap.size w wx) := fun wx hgb => by
    refine ⟨_, rfl, fun wy hx => HRR.out wy fun kk hb hk => ?_, below_gb HB3.out hgb HB3.out.size (Nat.le_succ _)⟩
    exact (hx kk (by omega) (Nat.lt_of_lt_of_le hk hgb.size)).trans (hgb.block kk hk (fun e => by injection e; omega))
  with_reducible refine fin _ ?_
  repeat' (with_reducible first | exact World.grownBy.refl _ _ | refine gb_alloc ?_ _ | refine gb_set ?_ _ _)
end Go.Proofs.YtjpcdbopioblaaaDoor
