/- The thin package's way back, for values without parts: half, fromGo, result; and the laws' own comparisons. -/
import Derived.Test.YtjpcdbopioblaaaDoorSame
import Derived.Test.YtjpcdbopioblaaaDoorFloats2
import Derived.Test.YtjpcdbopioblaaaDoorToGo
import Derived.Test.YtjpcdbopioblaaaDoorAssert
namespace Go.Proofs.YtjpcdbopioblaaaDoor
open Go.RowKit

/-- The tree lies in blocks from base on alone: it stands as long as these do. -/
def RV.Here (base : Nat) (w : World) (v : Value) (y : RV) : Prop := ∀ wx, SameFrom base w wx → y.Rep wx v
theorem SameFrom.refl (base : Nat) (w : World) : SameFrom base w w := fun _ _ _ => rfl
theorem RV.Here.rep {base : Nat} {w : World} {v : Value} {y : RV} (h : y.Here base w v) : y.Rep w v := h w (SameFrom.refl _ _)
theorem RV.Here.same {base : Nat} {w w' : World} {v : Value} {y : RV} (h : y.Here base w v) (hs : SameFrom base w w') (hz : w.heap.size ≤ w'.heap.size) : y.Here base w' v :=
  fun wx hx => h wx fun k hb hk => (hx k hb (Nat.lt_of_lt_of_le hk hz)).trans (hs k hb hk)
theorem RV.Here.mono {base base' : Nat} {w : World} {v : Value} {y : RV} (h : y.Here base w v) (hb : base' ≤ base) : y.Here base' w v := fun wx hx => h wx fun k hk => hx k (Nat.le_trans hb hk)

/-- What comes back: the same tree, in memory of the call's own. -/
def FromPost (y : RV) (w : World) (e : Ending) (w' : World) : Prop := ∃ v, e = .returned (.tuple #[v, .bool true]) ∧ y.Here w.heap.size w' v ∧ Below w.heap.size w w'

theorem rep_flat {k h : Int} {t : ByteArray} {w : World} (hk : I64 k) (hh : I64 h) (ht : t.size ≤ reachN) :
    (RV.mk k h t [] [] []).Rep w (.agg #[.int .i64 k, .int .i64 h, .string t, .slice none 0 0, .slice none 0 0, .slice none 0 0]) := by
  unfold RV.Rep
  exact ⟨none, 0, none, 0, none, 0, rfl, hk, hh, ht, by simp, by simp, by simp, by unfold RV.RepL; trivial, trivial, by unfold RV.RepL; trivial⟩

theorem trunc_extern (F : Nat) (s : Bool) (m : Nat) (i : Int) (h : FloatKind.f64.decode F = .number s m i) :
    Extern.MathFloor.toIntegral "math.archTrunc" .zero #[.float .f64 F] = pure (.float .f64 (FloatKind.f64.encode ((Ieee.Datum.number s m i).integral .zero))) := by
  conv => lhs; whnf
  rw [h]

/-- The one result of a function that keeps it in a cell. -/
theorem results_cell {fn : Func} {p : Tmp} {ty : TypeId} (h : fn.results = #[.cell p ty]) (tmps : Array Value) (P : Program) (w : World) :
    (results fn tmps).run P w = ((asAddr (tmps.getD p undef)).run P w).andThen fun a w₁ => (loadVar ty a).run P w₁ := by
  simp only [results, h]
  simp [Sem.run_bind, Result.andThen]

set_option maxRecDepth 100000 in
set_option maxHeartbeats 800000 in
theorem trunc_any (h : Int) (w : World) (h0 : h ≠ 0) (h1 : -9007199254740992 < h) (h2 : h < 9007199254740992) :
    Calls Tryd.prog 98 #[.float .f64 (floatOfInt .f64 h)] w fun e w' => e = .returned (.float .f64 (floatOfInt .f64 h)) ∧ w' = w := by
  have hx : ∀ W : World, (callFunc 108 #[.float .f64 (floatOfInt .f64 h)]).run Tryd.prog W = .ok (.value (.float .f64 (floatOfInt .f64 h))) W := fun W => by
    rw [run_callFunc_extern Tryd.func108 (by kernel_rfl) (by kernel_rfl) (by kernel_rfl) (e := Extern.MathFloor.toIntegral "math.archTrunc" .zero) (by kernel_rfl)]
    have hd : FloatKind.f64.decode (floatOfInt .f64 h) = .number (decide (h < 0)) (sig h.natAbs) (h.natAbs.log2 - 52) := int_read h h0 h1 h2
    have ht : FloatKind.f64.encode ((Ieee.Datum.number (decide (h < 0)) (sig h.natAbs) (h.natAbs.log2 - 52)).integral .zero) = floatOfInt .f64 h := by
      rw [← int_read h h0 h1 h2]; exact trunc_bits h h0 h1 h2
    rw [trunc_extern _ _ _ _ hd, ht]
    rfl
  generalize floatOfInt .f64 h = F at hx ⊢
  go_enter Tryd.func98, Tryd.ntmps98
  go_wp2_with fail
  go_ret
  exact ⟨rfl, rfl⟩

set_option maxRecDepth 100000 in
set_option maxHeartbeats 800000 in
theorem half_any (h : Int) (w : World) (h0 : h ≠ 0) (h1 : -9007199254740992 < h) (h2 : h < 9007199254740992) :
    Calls Tryd.prog 86 #[.float .f64 (floatOfInt .f64 h)] w fun e w' => e = .returned (.tuple #[.agg #[.int .i64 3, .int .i64 h, .string ByteArray.empty, .slice none 0 0, .slice none 0 0, .slice none 0 0], .bool true]) ∧ Below w.heap.size w w' := by
  have hT := fun W => trunc_any h W h0 h1 h2
  have ho1 : FloatKind.f64.format.order (floatOfInt .f64 h) (floatOfInt .f64 h) = some .eq := order_same h h0 h1 h2
  have ho2 : FloatKind.f64.format.order (floatOfInt .f64 h) 14109777632551763968 = some .gt := order_low h h0 h1 h2
  have ho3 : FloatKind.f64.format.order (floatOfInt .f64 h) 4886405595696988160 = some .lt := order_high h h0 h1 h2
  have hi : ∀ w, (convert 90 3 (.float .f64 (floatOfInt .f64 h))).run Tryd.prog w = .ok (.int .i64 h) w := fun w => run_convert_float_int w _ _ .f64 .i64 _ _ (by rw [Tryd.underlying90]; rfl) Tryd.underlying3 (toInt_bits h h0 h1 h2)
  generalize floatOfInt .f64 h = F at hT ho1 ho2 ho3 hi ⊢
  have HT := Lib.hid hT
  clear hT
  go_enter Tryd.func86, Tryd.ntmps86
  go_wp2_with (go_at_call 98; refine (HT.out _).mono ?_; rintro e w3 ⟨rfl, rfl⟩)
  refine bodyPost_ret (v := .tuple #[.agg #[.int .i64 3, .int .i64 h, .string ByteArray.empty, .slice none 0 0, .slice none 0 0, .slice none 0 0], .bool true]) (by rw [results_cell_tmp rfl]; go_simp; rfl) rfl ?_
  exact ⟨rfl, (Below.refl _ _).alloc (Nat.le_refl _) _⟩

/-- What the way back needs to know of a tree: its sizes. -/
def RV.Sized (y : RV) : Prop := y.nodes ≤ 100000 ∧ y.bytes ≤ 100000

theorem below_set {w w' : World} (h : Below w.heap.size w w') (o : Nat) (v : Value) : Below w.heap.size w (w'.setCell ⟨w.heap.size, o, none⟩ v) := h.setCell (Nat.le_refl _) v

set_option maxRecDepth 100000 in
set_option maxHeartbeats 800000 in
theorem fromGo_null (w : World) :
    Calls Tryd.prog 74 #[.nilIface] w fun e w' => e = .returned (.tuple #[.agg #[.int .i64 0, .int .i64 0, .string ByteArray.empty, .slice none 0 0, .slice none 0 0, .slice none 0 0], .bool true]) ∧ Below w.heap.size w w' := by
  have HB := Lib.hid (fun o => (Below.refl w.heap.size w).alloc (Nat.le_refl _) o)
  go_enter Tryd.func74, Tryd.ntmps74
  go_wp2_with fail
  refine bodyPost_ret (v := .tuple #[.agg #[.int .i64 0, .int .i64 0, .string ByteArray.empty, .slice none 0 0, .slice none 0 0, .slice none 0 0], .bool true]) (by rw [results_cell_tmp rfl]; go_simp; rfl) rfl ?_
  exact ⟨rfl, HB.out _⟩

set_option maxRecDepth 100000 in
set_option maxHeartbeats 800000 in
theorem fromGo_false (w : World) :
    Calls Tryd.prog 74 #[.iface 4 (.bool false)] w fun e w' => e = .returned (.tuple #[.agg #[.int .i64 1, .int .i64 0, .string ByteArray.empty, .slice none 0 0, .slice none 0 0, .slice none 0 0], .bool true]) ∧ Below w.heap.size w w' := by
  have a_bool := as_bool_bool
  have HB := Lib.hid (fun o => (Below.refl w.heap.size w).alloc (Nat.le_refl _) o)
  go_enter Tryd.func74, Tryd.ntmps74
  go_wp2_with fail
  refine bodyPost_ret (v := .tuple #[.agg #[.int .i64 1, .int .i64 0, .string ByteArray.empty, .slice none 0 0, .slice none 0 0, .slice none 0 0], .bool true]) (by rw [results_cell_tmp rfl]; go_simp; rfl) rfl ?_
  exact ⟨rfl, HB.out _⟩

set_option maxRecDepth 100000 in
set_option maxHeartbeats 800000 in
theorem fromGo_true (w : World) :
    Calls Tryd.prog 74 #[.iface 4 (.bool true)] w fun e w' => e = .returned (.tuple #[.agg #[.int .i64 2, .int .i64 0, .string ByteArray.empty, .slice none 0 0, .slice none 0 0, .slice none 0 0], .bool true]) ∧ Below w.heap.size w w' := by
  have a_bool := as_bool_bool
  have HB := Lib.hid (fun o => (Below.refl w.heap.size w).alloc (Nat.le_refl _) o)
  go_enter Tryd.func74, Tryd.ntmps74
  go_wp2_with fail
  refine bodyPost_ret (v := .tuple #[.agg #[.int .i64 2, .int .i64 0, .string ByteArray.empty, .slice none 0 0, .slice none 0 0, .slice none 0 0], .bool true]) (by rw [results_cell_tmp rfl]; go_simp; rfl) rfl ?_
  exact ⟨rfl, HB.out _⟩

set_option maxRecDepth 100000 in
set_option maxHeartbeats 800000 in
theorem fromGo_int (q h : Int) (hq : IntKind.i64.wrap (2 * q) = h) (c1 : -4611686018427387904 ≤ q) (c2 : q ≤ 4611686018427387903) (w : World) :
    Calls Tryd.prog 74 #[.iface 3 (.int .i64 q)] w fun e w' => e = .returned (.tuple #[.agg #[.int .i64 3, .int .i64 h, .string ByteArray.empty, .slice none 0 0, .slice none 0 0, .slice none 0 0], .bool true]) ∧ Below w.heap.size w w' := by
  have a_bool := as_int_bool
  have a_int := as_int_int
  have HB := Lib.hid (fun o => (Below.refl w.heap.size w).alloc (Nat.le_refl _) o)
  go_enter Tryd.func74, Tryd.ntmps74
  go_wp2_with fail
  refine bodyPost_ret (v := .tuple #[.agg #[.int .i64 3, .int .i64 h, .string ByteArray.empty, .slice none 0 0, .slice none 0 0, .slice none 0 0], .bool true]) (by rw [results_cell_tmp rfl]; go_simp; rfl) rfl ?_
  exact ⟨rfl, HB.out _⟩

set_option maxRecDepth 100000 in
set_option maxHeartbeats 800000 in
theorem fromGo_text (t : ByteArray) (w : World) :
    Calls Tryd.prog 74 #[.iface 9 (.string t)] w fun e w' => e = .returned (.tuple #[.agg #[.int .i64 4, .int .i64 0, .string t, .slice none 0 0, .slice none 0 0, .slice none 0 0], .bool true]) ∧ Below w.heap.size w w' := by
  have a_bool := as_str_bool
  have a_int := as_str_int
  have a_float := as_str_float
  have a_str := as_str_str
  have HB := Lib.hid (fun o => (Below.refl w.heap.size w).alloc (Nat.le_refl _) o)
  go_enter Tryd.func74, Tryd.ntmps74
  go_wp2_with fail
  refine bodyPost_ret (v := .tuple #[.agg #[.int .i64 4, .int .i64 0, .string t, .slice none 0 0, .slice none 0 0, .slice none 0 0], .bool true]) (by rw [results_cell_tmp rfl]; go_simp) rfl ?_
  exact ⟨rfl, HB.out _⟩

set_option maxRecDepth 100000 in
set_option maxHeartbeats 800000 in
theorem fromGo_half (h : Int) (h0 : h ≠ 0) (h1 : -9007199254740992 < h) (h2 : h < 9007199254740992) (w : World) :
    Calls Tryd.prog 74 #[.iface 90 (.float .f64 (halfF h))] w fun e w' => e = .returned (.tuple #[.agg #[.int .i64 3, .int .i64 h, .string ByteArray.empty, .slice none 0 0, .slice none 0 0, .slice none 0 0], .bool true]) ∧ Below w.heap.size w w' := by
  have hq : ∀ w, (binOp .mul 90 (.float .f64 4611686018427387904) (.float .f64 (halfF h))).run Tryd.prog w = .ok (.float .f64 (floatOfInt .f64 h)) w := fun w => run_float_arith w .mul 90 .f64 _ _ _ (twice_bits h h0 h1 h2)
  have HH := Lib.hid (fun W => half_any h W h0 h1 h2)
  have HB := Lib.hid (fun o => (Below.refl w.heap.size w).alloc (Nat.le_refl _) o)
  have a_bool := as_float_bool
  have a_int := as_float_int
  have a_float := as_float_float
  go_enter Tryd.func74, Tryd.ntmps74
  go_wp2_with fail
  refine (HH.out _).mono ?_
  rintro e w1 ⟨rfl, hb1⟩
  have HB1 := Lib.hid ((HB.out _).trans (hb1.mono (by simp)))
  obtain ⟨hc1, hf1⟩ := bcell hb1
  have hz1 := hb1.size
  simp at hz1
  clear hb1
  go_wp2_with fail
  refine bodyPost_ret (v := .tuple #[.agg #[.int .i64 3, .int .i64 h, .string ByteArray.empty, .slice none 0 0, .slice none 0 0, .slice none 0 0], .bool true]) (by rw [results_cell_tmp rfl]; go_simp) rfl ?_
  exact ⟨rfl, below_set (below_set (below_set (below_set (below_set (below_set HB1.out _ _) _ _) _ _) _ _) _ _) _ _⟩

/-- Values without parts come back as they are. -/
theorem fromGo_flat (y : RV) (x : Value) (w : World) (base : Nat) (hg : y.Good) (hs : y.Sized) (hy : y.Go w base x) (hk : ∀ k h t l ks vs, y = .mk k h t l ks vs → k ≠ 5 ∧ k ≠ 6) :
    Calls Tryd.prog 74 #[x] w (FromPost y w) := by
  obtain ⟨k, h, t, l, ks, vs⟩ := y
  obtain ⟨k5, k6⟩ := hk _ _ _ _ _ _ rfl
  obtain ⟨r3, r4, r5, r6, hk0, hk6, hh0, hh1, gl, gv⟩ := hg.rest
  have e5 := r5 k5
  obtain ⟨e6, e7⟩ := r6 k6
  subst e5 e6 e7
  have hpar : h % 2 = 0 ∨ (-9007199254740992 < h ∧ h < 9007199254740992) := by unfold RV.Good at hg; exact hg.2.2.2.2.2.2.2.2.2.1
  have ht : t.size ≤ reachN := by have := hs.2; unfold RV.bytes at this; unfold reachN; omega
  unfold RV.Go at hy
  rcases hy with ⟨rfl, rfl⟩ | ⟨rfl, rfl⟩ | ⟨rfl, rfl⟩ | ⟨rfl, rfl⟩ | ⟨rfl, rfl⟩ | ⟨rfl, _⟩ | ⟨rfl, _⟩
  · have e1 := r3 (by decide)
    have e2 := r4 (by decide)
    subst e1 e2
    exact (fromGo_null w).mono fun e w' ⟨he, hb⟩ => ⟨_, he, fun _ _ => rep_flat (by unfold I64; omega) (by unfold I64; omega) ht, hb⟩
  · have e1 := r3 (by decide)
    have e2 := r4 (by decide)
    subst e1 e2
    exact (fromGo_false w).mono fun e w' ⟨he, hb⟩ => ⟨_, he, fun _ _ => rep_flat (by unfold I64; omega) (by unfold I64; omega) ht, hb⟩
  · have e1 := r3 (by decide)
    have e2 := r4 (by decide)
    subst e1 e2
    exact (fromGo_true w).mono fun e w' ⟨he, hb⟩ => ⟨_, he, fun _ _ => rep_flat (by unfold I64; omega) (by unfold I64; omega) ht, hb⟩
  · have e2 := r4 (by decide)
    subst e2
    have hdm := Int.mul_tdiv_add_tmod h 2
    unfold numG
    split
    · rename_i hev
      rw [hev] at hdm
      exact (fromGo_int (h.tdiv 2) h (by rw [show 2 * h.tdiv 2 = h by omega]; exact IntWalk.i64_in _ (by omega)) (by omega) (by omega) w).mono fun e w' ⟨he, hb⟩ => ⟨_, he, fun _ _ => rep_flat (by unfold I64; omega) (by unfold I64; omega) ht, hb⟩
    · rename_i hodd
      have hb := hpar.resolve_left (fun e => hodd (Int.tmod_eq_zero_of_dvd (Int.dvd_of_emod_eq_zero e)))
      exact (fromGo_half h (by rintro rfl; exact hodd rfl) hb.1 hb.2 w).mono fun e w' ⟨he, hb⟩ => ⟨_, he, fun _ _ => rep_flat (by unfold I64; omega) (by unfold I64; omega) ht, hb⟩
  · have e1 := r3 (by decide)
    subst e1
    exact (fromGo_text t w).mono fun e w' ⟨he, hb⟩ => ⟨_, he, fun _ _ => rep_flat (by unfold I64; omega) (by unfold I64; omega) ht, hb⟩
  · exact absurd rfl k5
  · exact absurd rfl k6

/-- A result that is a value: the tree, and no error. -/
def ResIs (y : RV) (w : World) (r : Value) : Prop := ∃ k h t al n cl ak m ck av q cv, r = .agg #[.int .i64 k, .int .i64 h, .string t, .slice al n cl, .slice ak m ck, .slice av q cv, .int .i64 0] ∧
  y.Rep w (.agg #[.int .i64 k, .int .i64 h, .string t, .slice al n cl, .slice ak m ck, .slice av q cv])
def ResHere (base : Nat) (y : RV) (w : World) (r : Value) : Prop := ∀ wx, SameFrom base w wx → ResIs y wx r
theorem ResHere.same {base : Nat} {w w' : World} {v : Value} {y : RV} (h : ResHere base y w v) (hs : SameFrom base w w') (hz : w.heap.size ≤ w'.heap.size) : ResHere base y w' v :=
  fun wx hx => h wx fun k hb hk => (hx k hb (Nat.lt_of_lt_of_le hk hz)).trans (hs k hb hk)
theorem ResHere.mono {base base' : Nat} {w : World} {v : Value} {y : RV} (h : ResHere base y w v) (hb : base' ≤ base) : ResHere base' y w v := fun wx hx => h wx fun k hk => hx k (Nat.le_trans hb hk)
theorem ResHere.is {base : Nat} {w : World} {v : Value} {y : RV} (h : ResHere base y w v) : ResIs y w v := h w (SameFrom.refl _ _)
theorem ResHere.shape {base : Nat} {w : World} {v : Value} {y : RV} (h : ResHere base y w v) : ∃ k h t al n cl ak m ck av q cv, v = .agg #[.int .i64 k, .int .i64 h, .string t, .slice al n cl, .slice ak m ck, .slice av q cv, .int .i64 0] := by
  obtain ⟨k, h, t, al, n, cl, ak, m, ck, av, q, cv, e, _⟩ := h.is
  exact ⟨k, h, t, al, n, cl, ak, m, ck, av, q, cv, e⟩
def ResPost (y : RV) (w : World) (e : Ending) (w' : World) : Prop := ∃ r, e = .returned r ∧ ResHere w.heap.size y w' r ∧ Below w.heap.size w w'

set_option maxRecDepth 100000 in
set_option maxHeartbeats 1600000 in
theorem result_any (y : RV) (x : Value) (w : World) (base : Nat) (hy : y.Go w base x) (hf : ∀ w', Below w.heap.size w w' → Calls Tryd.prog 74 #[x] w' (FromPost y w')) :
    Calls Tryd.prog 46 #[x] w (ResPost y w) := by
  unfold ResPost
  have HF := Lib.hid (fun o => hf _ ((Below.refl _ _).alloc (Nat.le_refl _) o))
  clear hf
  have HB := Lib.hid (fun o => (Below.refl w.heap.size w).alloc (Nat.le_refl _) o)
  have hsh : x = .nilIface ∨ (∃ v, x = .iface 4 v) ∨ (∃ v, x = .iface 3 v) ∨ (∃ v, x = .iface 90 v) ∨ (∃ v, x = .iface 9 v) ∨ (∃ v, x = .iface 85 v) ∨ (∃ v, x = .iface 94 v) := by
    obtain ⟨k, h, t, l, ks, vs⟩ := y
    unfold RV.Go at hy
    rcases hy with ⟨_, e⟩ | ⟨_, e⟩ | ⟨_, e⟩ | ⟨_, e⟩ | ⟨_, e⟩ | ⟨_, a, cap, e, _⟩ | ⟨_, r, n, xs, e, _⟩
    · exact .inl e
    · exact .inr (.inl ⟨_, e⟩)
    · exact .inr (.inl ⟨_, e⟩)
    · unfold numG at e
      split at e
      · exact .inr (.inr (.inl ⟨_, e⟩))
      · exact .inr (.inr (.inr (.inl ⟨_, e⟩)))
    · exact .inr (.inr (.inr (.inr (.inl ⟨_, e⟩))))
    · exact .inr (.inr (.inr (.inr (.inr (.inl ⟨_, e⟩)))))
    · exact .inr (.inr (.inr (.inr (.inr (.inr ⟨_, e⟩)))))
  clear hy
  have ha : ∀ w, (Instr.typeAssert x 20 117 true).run Tryd.prog w = .ok (.tuple #[.nilIface, .bool false]) w := by
    rcases hsh with rfl | ⟨v, rfl⟩ | ⟨v, rfl⟩ | ⟨v, rfl⟩ | ⟨v, rfl⟩ | ⟨v, rfl⟩ | ⟨v, rfl⟩
    · exact as_nil_error
    · exact as_bool_error v
    · exact as_int_error v
    · exact as_float_error v
    · exact as_str_error v
    · exact as_list_error v
    · exact as_map_error v
  clear hsh
  go_enter Tryd.func46, Tryd.ntmps46
  go_wp2_with fail
  refine (HF.out _).mono ?_
  rintro e w1 ⟨v, rfl, hr, hb1⟩
  have HB1 := Lib.hid ((HB.out _).trans (hb1.mono (by simp)))
  have HR := Lib.hid hr
  obtain ⟨k, h, t, al, n, cl, ak, m, ck, av, q, cv, rfl⟩ : ∃ k h t al n cl ak m ck av q cv, v = .agg #[.int .i64 k, .int .i64 h, .string t, .slice al n cl, .slice ak m ck, .slice av q cv] := by
    have hr' := hr.rep
    obtain ⟨k, h, t, l, ks, vs⟩ := y
    unfold RV.Rep at hr'
    obtain ⟨al, cl, ak, ck, av, cv, e, _⟩ := hr'
    exact ⟨_, _, _, _, _, _, _, _, _, _, _, _, e⟩
  clear hr
  obtain ⟨hc1', hf1'⟩ := bcell hb1
  have hz1 := hb1.size
  simp at hz1
  clear hb1
  have hy1 : w.heap.size < w1.heap.size := by omega
  have hy2 : w.heap.size ≠ w1.heap.size := by omega
  have hc1 := fun o => hc1' w.heap.size o (by simp)
  have hf1 := fun o => hf1' w.heap.size o (by simp)
  clear hc1' hf1'
  go_wp2_with fail
  refine bodyPost_ret (v := .agg #[.int .i64 k, .int .i64 h, .string t, .slice al n cl, .slice ak m ck, .slice av q cv, .int .i64 0]) (by rw [results_cell rfl]; go_simp) rfl ?_
  have fin : ∀ wx, w1.grownBy wx (some w.heap.size) → (∃ r, Ending.returned (.agg #[.int .i64 k, .int .i64 h, .string t, .slice al n cl, .slice ak m ck, .slice av q cv, .int .i64 0]) = Ending.returned r ∧ ResHere w.heap.size y wx r ∧ Below w.heap.size w wx) := fun wx hgb => by
    refine ⟨_, rfl, fun wy hx => ⟨_, _, _, _, _, _, _, _, _, _, _, _, rfl, HR.out wy fun kk hb hk => ?_⟩, below_gb HB1.out hgb HB1.out.size (Nat.le_refl _)⟩
    have hb' : w.heap.size + 1 ≤ kk := by simpa using hb
    exact (hx kk (by omega) (Nat.lt_of_lt_of_le hk hgb.size)).trans (hgb.block kk hk (fun e => by injection e; omega))
  with_reducible refine fin _ ?_
  repeat' (with_reducible first | exact World.grownBy.refl _ _ | refine gb_alloc ?_ _ | refine gb_set ?_ _ _)

/-- The law's own comparison: an answer that is the value. -/
theorem same_same (x : RV) (va vb : Value) (w : World) (hg : x.Good) (hx : x.Rep w va) (hy : x.Rep w vb) :
    Calls Tryd.prog 17 #[va, vb] w fun e w' => e = .returned (.bool true) ∧ Below w.heap.size w w' :=
  (same_any x x va vb w hg hg hx hy).mono fun e w' ⟨⟨b, he, hb⟩, h2⟩ => by
    have : b = true := hb.2 rfl
    subst this
    exact ⟨he, h2⟩

set_option maxRecDepth 100000 in
set_option maxHeartbeats 800000 in
theorem told_any (x : RV) (r v : Value) (w : World) (hg : x.Good) (hr : ResIs x w r) (hv : x.Rep w v) :
    Calls Tryd.prog 48 #[r, v, .int .i64 0] w fun e w' => e = .returned (.bool true) ∧ Below w.heap.size w w' := by
  obtain ⟨k, h, t, al, n, cl, ak, m, ck, av, q, cv, rfl, hx⟩ := hr
  have HB := Lib.hid (fun o o' => ((Below.refl w.heap.size w).alloc (Nat.le_refl _) o).alloc (by simp) o')
  have HS := Lib.hid (fun wx (hb : Below w.heap.size w wx) => same_same x _ _ wx hg (hx.below hb) (hv.below hb))
  obtain ⟨k', h', t', l', ks', vs'⟩ := x
  unfold RV.Rep at hv
  obtain ⟨al', cl', ak', ck', av', cv', rfl, _⟩ := hv
  clear hx hg
  go_enter Tryd.func48, Tryd.ntmps48
  go_wp2_with (go_at_call 17; refine (HS.out _ (HB.out _ _)).mono ?_; rintro e w3 ⟨rfl, hb3⟩; have HB3 := Lib.hid ((HB.out _ _).trans (hb3.mono (by simp; omega))); clear hb3)
  go_ret
  exact ⟨rfl, HB3.out⟩

set_option maxRecDepth 100000 in
set_option maxHeartbeats 800000 in
theorem given_any (x : RV) (r v : Value) (w : World) (hg : x.Good) (hr : ResIs x w r) (hv : x.Rep w v) :
    Calls Tryd.prog 23 #[r, v] w fun e w' => e = .returned (.bool true) ∧ Below w.heap.size w w' := by
  have hT := fun wx (hb : Below w.heap.size w wx) => told_any x r v wx hg (by obtain ⟨k, h, t, al, n, cl, ak, m, ck, av, q, cv, e, hx⟩ := hr; exact ⟨k, h, t, al, n, cl, ak, m, ck, av, q, cv, e, hx.below hb⟩) (hv.below hb)
  obtain ⟨k, h, t, al, n, cl, ak, m, ck, av, q, cv, rfl, hx⟩ := hr
  obtain ⟨k', h', t', l', ks', vs'⟩ := x
  unfold RV.Rep at hv
  obtain ⟨al', cl', ak', ck', av', cv', rfl, _⟩ := hv
  have HB := Lib.hid (fun o o' => ((Below.refl w.heap.size w).alloc (Nat.le_refl _) o).alloc (by simp) o')
  have HT := Lib.hid hT
  clear hx hg hT
  go_enter Tryd.func23, Tryd.ntmps23
  go_wp2_with (go_at_call 48; refine (HT.out _ (HB.out _ _)).mono ?_; rintro e w3 ⟨rfl, hb3⟩; have HB3 := Lib.hid ((HB.out _ _).trans (hb3.mono (by simp; omega))); clear hb3)
  go_ret
  exact ⟨rfl, HB3.out⟩
end Go.Proofs.YtjpcdbopioblaaaDoor
