/- Texts of this proof laid together by a program: TypeOf0, GoRep, EncTxt, GoSet, EncArr, MapPlain, MapGet, MergePlain, MergeData. -/
import Derived.Test.YtjpcdbopioblaaaGreatDoorMa3
import Derived.Test.YtjpcdbopioblaaaGreatDoorMa4
import Derived.Test.YtjpcdbopioblaaaGreatDoorMa6
import Derived.Deep.Light
import Derived.Maps.OwnOps
import Derived.Maps.Views
import Derived.Maps.OwnSet
import Derived.Laws.FloatArith
import Derived.Laws.EntriesVeiled
import Derived.Deep.OwnRows
import Derived.WideKeyElems
import Derived.Maps.RangeWalk
import Derived.Maps.Ext
import Derived.Lib.SlMapMerge
import Derived.Sort.MapsRangeIn
/- Small functions of the reference and of the thin package walked: Fit, zzFits1, zzFits2, Type. -/
namespace Go.Proofs.YtjpcdbopioblaaaGreatDoor
open Go.RowKit

/-- Fit answers, and what it answers yes to is good. -/
def FitPost (x : RV) (w : World) (e : Ending) (w' : World) : Prop :=
  ∃ b, e = .returned (.bool b) ∧ Below w.heap.size w w' ∧ (b = true → x.Good ∧ x.nodes ≤ 400 ∧ x.bytes ≤ 2000)

set_option maxHeartbeats 400000 in
theorem fit_any (x : RV) (v : Value) (w : World) (hT : Tabs w) (hr : x.Rep w v) : Calls Tryz.prog 25 #[v] w (FitPost x w) := by
  obtain ⟨k, h, t, l, ks, vs⟩ := x
  have hr0 := Lib.hid hr
  unfold RV.Rep at hr
  obtain ⟨al, cl, ak, ck, av, cv, rfl, hk, hh, ht, hll, hlk, hlv, hrl, hrk, hrv⟩ := hr
  clear hrl hrk hrv
  have HT := Lib.hid hT
  clear hT
  go_enter Tryz.func25, Tryz.ntmps25
  go_wp2_with fail
  refine (value_any w HT.out (w.heap.size + 1) (by omega) _ _ _ 0 0 0 false _ (Nat.le_refl _) (((Below.refl _ w).alloc (Nat.le_refl _) _).alloc (by simp) _) (by unfold Lk; exact (by simpa using heap_alloc_new (w.alloc _) _)) hr0.out (by omega) (by omega) (by omega) (by omega) (fun _ => by omega) (by omega) (by omega)).mono ?_
  rintro e w1 ⟨p', b', bad', rfl, hl, hg, p0, p1, b0, b1, hq⟩
  have HQ := Lib.hid hq
  have HB : Hid (Below w.heap.size w w1) := below_gb (((Below.refl _ w).alloc (Nat.le_refl _) _).alloc (by simp) _) hg (by simp; omega) (by omega)
  have k2 := hl.c2
  clear hq hl hg
  go_wp2_with fail
  go_ret
  refine ⟨_, rfl, HB.out, fun hb => ?_⟩
  have hb' : bad' = false := by simpa using hb
  obtain ⟨_, q1, q2, q3, q4, q5⟩ := HQ.out hb'
  exact ⟨q3, by omega, by omega⟩

/-- The keys of a value are looked at for their lengths alone. -/
theorem fits2_any (ks : List ByteArray) (a : Option Addr) (cap : Nat) (w : World) (hr : KeysAt w a 0 ks) (hk : ks.length ≤ reachN) :
    Calls Tryz.prog 38 #[.slice a ks.length cap] w fun e w' => (∃ b, e = .returned (.bool b)) ∧ w = w' := by
  have HR := Lib.hid hr
  clear hr
  unfold reachN at hk
  go_enter Tryz.func38, Tryz.ntmps38
  go_wp2_with fail
  · go_ret
    exact ⟨⟨_, rfl⟩, rfl⟩
  · go_loopg [4, 10] (ks.length) (fun gk s4 s10 wr => w = wr ∧ (∃ u : Value, s4 = u) ∧ ∃ i : Nat, s10 = .int .i64 i ∧ i ≤ ks.length ∧ gk = ks.length - i)
    case atStart => exact ⟨rfl, ⟨_, rfl⟩, 0, rfl, Nat.zero_le _, rfl⟩
    case round =>
      obtain ⟨rfl, ⟨u, rfl⟩, i, rfl, hi, rfl⟩ := hrel
      by_cases hlt : i < ks.length
      · obtain ⟨kb, ko, rfl, hks, g0⟩ := HR.out.get i hlt
        simp only [Nat.zero_add] at g0
        obtain ⟨key, hkey⟩ : ∃ key, ks[i] = key := ⟨_, rfl⟩
        rw [hkey] at g0 hks
        clear hkey
        unfold reachN at hks
        go_wp2_with fail
        · go_ret
          exact ⟨⟨_, rfl⟩, rfl⟩
        · go_roundg (ks.length - (i + 1))
          case measure => omega
          case rel => exact ⟨rfl, ⟨_, rfl⟩, i + 1, by go_num, by omega, rfl⟩
      · go_wp2_with fail
        go_ret
        exact ⟨⟨_, rfl⟩, rfl⟩

def BoolPost (w : World) (e : Ending) (w' : World) : Prop := (∃ b, e = .returned (.bool b)) ∧ Below w.heap.size w w'
set_option maxHeartbeats 400000 in
theorem fits1_any (x : RV) (v : Value) (w : World) (hr : x.Rep w v) : Calls Tryz.prog 12 #[v] w (BoolPost w) := by
  obtain ⟨k, h, t, l, ks, vs⟩ := x
  unfold RV.Rep at hr
  obtain ⟨al, cl, ak, ck, av, cv, rfl, hk, hh, ht, hll, hlk, hlv, hrl, hrk, hrv⟩ := hr
  have HC := Lib.hid (fits2_any ks ak ck _ (hrk.below ((Below.refl _ w).alloc (Nat.le_refl _) (.cells #[.int .i64 k, .int .i64 h, .string t, .slice al l.length cl, .slice ak ks.length ck, .slice av vs.length cv] 27))) hlk)
  clear hrl hrk hrv
  go_enter Tryz.func12, Tryz.ntmps12
  go_wp2_with (go_at_call 38; refine HC.out.mono ?_; rintro e w' ⟨⟨b, rfl⟩, rfl⟩)
  all_goals go_ret
  all_goals exact ⟨⟨_, rfl⟩, (Below.refl _ _).alloc (Nat.le_refl _) _⟩

/-- The name of a kind. -/
def typeName (k : Int) : ByteArray :=
  if k = 0 then ⟨#[110, 117, 108, 108]⟩ else if k = 1 ∨ k = 2 then ⟨#[98, 111, 111, 108, 101, 97, 110]⟩ else if k = 3 then ⟨#[110, 117, 109, 98, 101, 114]⟩ else
  if k = 5 then ⟨#[97, 114, 114, 97, 121]⟩ else if k = 6 then ⟨#[111, 98, 106, 101, 99, 116]⟩ else ⟨#[115, 116, 114, 105, 110, 103]⟩

set_option maxHeartbeats 400000 in
theorem type_any (x : RV) (v : Value) (w : World) (k h : Int) (t : ByteArray) (l : List RV) (ks : List ByteArray) (vs : List RV) (hx : x = .mk k h t l ks vs) (hr : x.Rep w v) :
    Calls Tryz.prog 28 #[v] w fun e w' => e = .returned (.string (typeName k)) ∧ Below w.heap.size w w' := by
  subst hx
  unfold RV.Rep at hr
  obtain ⟨al, cl, ak, ck, av, cv, rfl, hk, hh, ht, hll, hlk, hlv, hrl, hrk, hrv⟩ := hr
  clear hrl hrk hrv
  go_enter Tryz.func28, Tryz.ntmps28
  go_wp2_with fail
  all_goals go_ret
  all_goals refine ⟨?_, (Below.refl _ _).alloc (Nat.le_refl _) _⟩
  all_goals (go_light; simp_all [typeName])
end Go.Proofs.YtjpcdbopioblaaaGreatDoor

/- The program's own values: what it means that a tree lies in memory as the package gojq has it. -/
namespace Go.Proofs.YtjpcdbopioblaaaGreatDoor
open Go.RowKit

theorem RV.GoodL.append {l l' : List RV} : RV.GoodL (l ++ l') ↔ RV.GoodL l ∧ RV.GoodL l' := by
  induction l with
  | nil => simp [RV.GoodL]
  | cons x xs ih => simp only [List.cons_append, RV.GoodL, ih, and_assoc]
theorem RV.GoodL.get {l : List RV} (h : RV.GoodL l) : ∀ (i : Nat) (hi : i < l.length), l[i].Good := by
  induction l with
  | nil => intro i hi; simp at hi
  | cons x xs ih =>
    intro i hi
    cases i with
    | zero => exact h.1
    | succ i => exact ih h.2 i (by simpa using hi)

theorem RV.len_le : ∀ (l : List RV), l.length ≤ RV.nodesL l
  | [] => Nat.le_refl _
  | x :: xs => by have := RV.len_le xs; have := x.nodes_pos; simp only [List.length_cons, RV.nodesL]; omega

theorem bcell {W w1 : World} (hb : Below W.heap.size W w1) : (∀ b o, b < W.heap.size → w1.cell? ⟨b, o, none⟩ = W.cell? ⟨b, o, none⟩) ∧ (∀ b o, b < W.heap.size → w1.frozen? ⟨b, o, none⟩ = W.frozen? ⟨b, o, none⟩) :=
  ⟨fun b o h => hb.cell (p := ⟨b, o, none⟩) h, fun b o h => hb.frozen (p := ⟨b, o, none⟩) h⟩

/-- The cells of a value by their kinds. -/
theorem RV.Rep.shape {x : RV} {w : World} {c0 c1 c2 c3 c4 c5 : Value} (hr : x.Rep w (.agg #[c0, c1, c2, c3, c4, c5])) : ∃ k h t al nl cl ak nk ck av nv cv, c0 = .int .i64 k ∧ c1 = .int .i64 h ∧ c2 = .string t ∧ c3 = .slice al nl cl ∧ c4 = .slice ak nk ck ∧ c5 = .slice av nv cv := by
  obtain ⟨k, h, t, l, ks, vs⟩ := x
  unfold RV.Rep at hr
  obtain ⟨al, cl, ak, ck, av, cv, e, _⟩ := hr
  simp only [Value.agg.injEq, Array.mk.injEq, List.cons.injEq, and_true] at e
  obtain ⟨rfl, rfl, rfl, rfl, rfl, rfl⟩ := e
  exact ⟨_, _, _, _, _, _, _, _, _, _, _, _, rfl, rfl, rfl, rfl, rfl, rfl⟩

/-- A map's element read as itself. -/
def heldR (v : Value) : Option (DataW Value × List MemPlace) := some (.held v, [])
/-- A map by its keys, rising, and the values at them. -/
def mapD (ks : List ByteArray) (xs : List Value) : DataW Value := .map ((ks.zip xs).map fun p => (.string p.1.data.toList, .held p.2))

/-- The bits of a half. -/
def halfF (h : Int) : Nat := Ieee.double.write (.number (decide (h < 0)) h.natAbs (-1))
/-- A number as the program has it. -/
def numG (h : Int) : Value := if h.tmod 2 = 0 then .iface 3 (.int .i64 (h.tdiv 2)) else .iface 86 (.float .f64 (halfF h))

mutual
/-- The tree lies in the world from block 'base' on as a value of the program. -/
def RV.Go (w : World) (base : Nat) (x : Value) : RV → Prop
  | .mk k h t l ks vs =>
    (k = 0 ∧ x = .nilIface) ∨ (k = 1 ∧ x = .iface 4 (.bool false)) ∨ (k = 2 ∧ x = .iface 4 (.bool true)) ∨ (k = 3 ∧ x = numG h) ∨ (k = 4 ∧ x = .iface 9 (.string t)) ∨
    (k = 5 ∧ ∃ a cap, x = .iface 87 (.slice a l.length cap) ∧ RV.GoL w base a 0 l) ∨
    (k = 6 ∧ ∃ r n xs, x = .iface 90 (.map (some r)) ∧ base ≤ r ∧ n ≤ 1000000 ∧ w.ownsMap Tryz.prog 9 heldR r n (mapD ks xs) ∧ xs.length = ks.length ∧ RV.GoV w base xs vs)
def RV.GoL (w : World) (base : Nat) (a : Option Addr) (i : Nat) : List RV → Prop
  | [] => True
  | y :: ys => (∃ b o x, a = some ⟨b, o, none⟩ ∧ base ≤ b ∧ w.cell? ⟨b, o + i, none⟩ = some x ∧ RV.Go w base x y) ∧ RV.GoL w base a (i + 1) ys
def RV.GoV (w : World) (base : Nat) (xs : List Value) : List RV → Prop
  | [] => xs = []
  | y :: ys => ∃ x r, xs = x :: r ∧ RV.Go w base x y ∧ RV.GoV w base r ys
end

/-- Blocks from base on that were there are as they were. -/
def SameFrom (base : Nat) (w w' : World) : Prop := ∀ k, base ≤ k → k < w.heap.size → w'.heap[k]? = w.heap[k]?
theorem SameFrom.of_below {w w' : World} (h : Below w.heap.size w w') (base : Nat) : SameFrom base w w' := fun k _ hk => h.block k hk
theorem SameFrom.of_gb {w w' : World} {g base : Nat} (h : w.grownBy w' (some g)) (hg : g < base) : SameFrom base w w' := fun k hb hk => h.block k hk (fun e => by cases e; omega)
theorem SameFrom.cell {base : Nat} {w w' : World} (h : SameFrom base w w') {b o : Nat} {v : Value} (hb : base ≤ b) (hc : w.cell? ⟨b, o, none⟩ = some v) : w'.cell? ⟨b, o, none⟩ = some v :=
  (World.cell?_of_block (h b hb (cell_lt hc))).trans hc
theorem SameFrom.map {base : Nat} {w w' : World} (h : SameFrom base w w') {r n : Nat} {D : DataW Value} (hb : base ≤ r) (hm : w.ownsMap Tryz.prog 9 heldR r n D) : w'.ownsMap Tryz.prog 9 heldR r n D := by
  have hlt := hm.lt
  obtain ⟨es, clock, h1, h2⟩ := hm
  exact ⟨es, clock, (h r hb hlt).trans h1, h2⟩

mutual
theorem RV.Go.same {w w' : World} {base : Nat} (hs : SameFrom base w w') : ∀ {y : RV} {x : Value}, y.Go w base x → y.Go w' base x
  | .mk k h t l ks vs, x, hr => by
    unfold RV.Go at hr ⊢
    rcases hr with e | e | e | e | e | ⟨e, a, cap, hx, hl⟩ | ⟨e, r, n, xs, hx, hb, hn, hm, hxs, hv⟩
    · exact .inl e
    · exact .inr (.inl e)
    · exact .inr (.inr (.inl e))
    · exact .inr (.inr (.inr (.inl e)))
    · exact .inr (.inr (.inr (.inr (.inl e))))
    · exact .inr (.inr (.inr (.inr (.inr (.inl ⟨e, a, cap, hx, RV.GoL.same hs hl⟩)))))
    · exact .inr (.inr (.inr (.inr (.inr (.inr ⟨e, r, n, xs, hx, hb, hn, hs.map hb hm, hxs, RV.GoV.same hs hv⟩)))))
theorem RV.GoL.same {w w' : World} {base : Nat} (hs : SameFrom base w w') : ∀ {l : List RV} {a : Option Addr} {i : Nat}, RV.GoL w base a i l → RV.GoL w' base a i l
  | [], _, _, _ => by unfold RV.GoL; trivial
  | y :: ys, a, i, hr => by
    unfold RV.GoL at hr ⊢
    obtain ⟨⟨b, o, x, e, hb, hc, hy⟩, h2⟩ := hr
    exact ⟨⟨b, o, x, e, hb, hs.cell hb hc, RV.Go.same hs hy⟩, RV.GoL.same hs h2⟩
theorem RV.GoV.same {w w' : World} {base : Nat} (hs : SameFrom base w w') : ∀ {l : List RV} {xs : List Value}, RV.GoV w base xs l → RV.GoV w' base xs l
  | [], _, hr => by unfold RV.GoV at hr ⊢; exact hr
  | y :: ys, xs, hr => by
    unfold RV.GoV at hr ⊢
    obtain ⟨x, r, e, hy, h2⟩ := hr
    exact ⟨x, r, e, RV.Go.same hs hy, RV.GoV.same hs h2⟩
end
mutual
theorem RV.Go.mono {w : World} {base base' : Nat} (hb : base' ≤ base) : ∀ {y : RV} {x : Value}, y.Go w base x → y.Go w base' x
  | .mk k h t l ks vs, x, hr => by
    unfold RV.Go at hr ⊢
    rcases hr with e | e | e | e | e | ⟨e, a, cap, hx, hl⟩ | ⟨e, r, n, xs, hx, hb2, hn, hm, hxs, hv⟩
    · exact .inl e
    · exact .inr (.inl e)
    · exact .inr (.inr (.inl e))
    · exact .inr (.inr (.inr (.inl e)))
    · exact .inr (.inr (.inr (.inr (.inl e))))
    · exact .inr (.inr (.inr (.inr (.inr (.inl ⟨e, a, cap, hx, RV.GoL.mono hb hl⟩)))))
    · exact .inr (.inr (.inr (.inr (.inr (.inr ⟨e, r, n, xs, hx, Nat.le_trans hb hb2, hn, hm, hxs, RV.GoV.mono hb hv⟩)))))
theorem RV.GoL.mono {w : World} {base base' : Nat} (hb : base' ≤ base) : ∀ {l : List RV} {a : Option Addr} {i : Nat}, RV.GoL w base a i l → RV.GoL w base' a i l
  | [], _, _, _ => by unfold RV.GoL; trivial
  | y :: ys, a, i, hr => by
    unfold RV.GoL at hr ⊢
    obtain ⟨⟨b, o, x, e, hb2, hc, hy⟩, h2⟩ := hr
    exact ⟨⟨b, o, x, e, Nat.le_trans hb hb2, hc, RV.Go.mono hb hy⟩, RV.GoL.mono hb h2⟩
theorem RV.GoV.mono {w : World} {base base' : Nat} (hb : base' ≤ base) : ∀ {l : List RV} {xs : List Value}, RV.GoV w base xs l → RV.GoV w base' xs l
  | [], _, hr => by unfold RV.GoV at hr ⊢; exact hr
  | y :: ys, xs, hr => by
    unfold RV.GoV at hr ⊢
    obtain ⟨x, r, e, hy, h2⟩ := hr
    exact ⟨x, r, e, RV.Go.mono hb hy, RV.GoV.mono hb h2⟩
end

theorem numG_shape (h : Int) : ∃ t y, numG h = .iface t y := by unfold numG; split <;> exact ⟨_, _, rfl⟩
theorem RV.Go.shape {w : World} {base : Nat} {x : Value} {y : RV} (hr : y.Go w base x) : x = .nilIface ∨ ∃ t z, x = .iface t z := by
  obtain ⟨k, h, t, l, ks, vs⟩ := y
  unfold RV.Go at hr
  rcases hr with ⟨_, e⟩ | ⟨_, e⟩ | ⟨_, e⟩ | ⟨_, e⟩ | ⟨_, e⟩ | ⟨_, a, cap, e, _⟩ | ⟨_, r, n, xs, e, _⟩
  · exact .inl e
  · exact .inr ⟨_, _, e⟩
  · exact .inr ⟨_, _, e⟩
  · obtain ⟨t, z, hz⟩ := numG_shape h; exact .inr ⟨t, z, e.trans hz⟩
  · exact .inr ⟨_, _, e⟩
  · exact .inr ⟨_, _, e⟩
  · exact .inr ⟨_, _, e⟩

theorem RV.GoL.get {w : World} {base : Nat} {a : Option Addr} : ∀ {l : List RV} {i : Nat}, RV.GoL w base a i l → ∀ (j : Nat) (h : j < l.length), ∃ b o x, a = some ⟨b, o, none⟩ ∧ base ≤ b ∧ w.cell? ⟨b, o + (i + j), none⟩ = some x ∧ l[j].Go w base x
  | _ :: _, i, h, 0, _ => by unfold RV.GoL at h; simpa using h.1
  | _ :: xs, i, h, j + 1, hj => by
    unfold RV.GoL at h
    have := RV.GoL.get h.2 j (by simpa using hj)
    simpa [Nat.add_assoc, Nat.add_comm 1 j] using this
/-- A row of the call's own, filled place by place, is a list of the program. -/
theorem RV.GoL.of {w : World} {base : Nat} {b o : Nat} (hb : base ≤ b) : ∀ (l : List RV) (i : Nat), (∀ (j : Nat) (h : j < l.length), ∃ x, w.cell? ⟨b, o + (i + j), none⟩ = some x ∧ l[j].Go w base x) → RV.GoL w base (some ⟨b, o, none⟩) i l
  | [], _, _ => by unfold RV.GoL; trivial
  | y :: ys, i, h => by
    unfold RV.GoL
    obtain ⟨x, hc, hg⟩ := h 0 (by simp)
    refine ⟨⟨b, o, x, rfl, hb, by simpa using hc, by simpa using hg⟩, RV.GoL.of hb ys (i + 1) fun j hj => ?_⟩
    obtain ⟨x', hc', hg'⟩ := h (j + 1) (by simpa using hj)
    exact ⟨x', by simpa [Nat.add_assoc, Nat.add_comm 1 j] using hc', by simpa using hg'⟩
theorem RV.GoV.len {w : World} {base : Nat} : ∀ {l : List RV} {xs : List Value}, RV.GoV w base xs l → xs.length = l.length
  | [], _, hr => by unfold RV.GoV at hr; simp [hr]
  | _ :: ys, xs, hr => by
    unfold RV.GoV at hr
    obtain ⟨x, r, rfl, _, h2⟩ := hr
    simp [RV.GoV.len h2]
theorem RV.GoV.get {w : World} {base : Nat} : ∀ {l : List RV} {xs : List Value}, RV.GoV w base xs l → ∀ (j : Nat) (h : j < l.length) (h' : j < xs.length), l[j].Go w base xs[j]
  | _ :: _, _, hr, 0, _, _ => by
    unfold RV.GoV at hr
    obtain ⟨x, r, rfl, hg, _⟩ := hr
    simpa using hg
  | _ :: ys, _, hr, j + 1, h, h' => by
    unfold RV.GoV at hr
    obtain ⟨x, r, rfl, _, h2⟩ := hr
    simpa using RV.GoV.get h2 j (by simpa using h) (by simpa using h')
theorem RV.GoV.of {w : World} {base : Nat} : ∀ (l : List RV) (xs : List Value), xs.length = l.length → (∀ (j : Nat) (h : j < l.length) (h' : j < xs.length), l[j].Go w base xs[j]) → RV.GoV w base xs l
  | [], [], _, _ => by unfold RV.GoV; rfl
  | y :: ys, x :: r, hl, h => by
    unfold RV.GoV
    exact ⟨x, r, rfl, h 0 (by simp) (by simp), RV.GoV.of ys r (by simpa using hl) fun j hj hj' => h (j + 1) (by simpa using hj) (by simpa using hj')⟩
end Go.Proofs.YtjpcdbopioblaaaGreatDoor

/- The JSON text of a tree, as the encoder writes it: plain. -/
namespace Go.Proofs.YtjpcdbopioblaaaGreatDoor
open Go.RowKit

def numT (h : Int) : List UInt8 := if h.tmod 2 = 0 then intText (h.tdiv 2) else numBytes h
def strT (t : ByteArray) : List UInt8 := 34 :: t.data.toList.flatMap encB ++ [34]
mutual
def RV.txt : RV → List UInt8
  | .mk k h t l ks vs => if k = 0 then [110, 117, 108, 108] else if k = 1 then [102, 97, 108, 115, 101] else if k = 2 then [116, 114, 117, 101] else if k = 3 then numT h else if k = 4 then strT t else if k = 5 then 91 :: (RV.txtC l).drop 1 ++ [93] else 123 :: (RV.txtM ks vs).drop 1 ++ [125]
/-- The elements, a comma ahead of each. -/
def RV.txtC : List RV → List UInt8
  | [] => []
  | x :: xs => 44 :: x.txt ++ RV.txtC xs
/-- The members, a comma ahead of each. -/
def RV.txtM (ks : List ByteArray) : List RV → List UInt8
  | [] => []
  | x :: xs => 44 :: strT (ks.headD ByteArray.empty) ++ 58 :: x.txt ++ RV.txtM ks.tail xs
end
theorem txtC_append : ∀ (a b : List RV), RV.txtC (a ++ b) = RV.txtC a ++ RV.txtC b
  | [], b => by simp [RV.txtC]
  | x :: a, b => by simp [RV.txtC, txtC_append a b]
theorem txtC_ne {l : List RV} (h : l ≠ []) : RV.txtC l ≠ [] := by cases l with | nil => exact absurd rfl h | cons x l => simp [RV.txtC]
/-- One element more. -/
theorem txtC_take {l : List RV} {i : Nat} (h : i < l.length) : (RV.txtC (l.take (i + 1))).drop 1 = (RV.txtC (l.take i)).drop 1 ++ (if i = 0 then [] else [44]) ++ l[i].txt := by
  rw [List.take_succ_eq_append_getElem h, txtC_append]
  have e : RV.txtC [l[i]] = 44 :: l[i].txt := by simp [RV.txtC]
  rw [e]
  by_cases h0 : i = 0
  · subst h0
    simp [RV.txtC]
  · have hne : RV.txtC (l.take i) ≠ [] := txtC_ne (by intro h1; have := congrArg List.length h1; rw [List.length_take, List.length_nil] at this; omega)
    cases hc : RV.txtC (l.take i) with
    | nil => exact absurd hc hne
    | cons c r => simp [h0]
theorem strT_len (t : ByteArray) : (strT t).length ≤ 6 * t.size + 2 := by
  have h : ∀ l : List UInt8, (l.flatMap encB).length ≤ 6 * l.length := fun l => by
    induction l with
    | nil => simp
    | cons c l ih =>
      have h1 : (encB c).length ≤ 6 := by unfold encB; repeat' split
                                          all_goals simp
      rw [List.flatMap_cons, List.length_append, List.length_cons]; omega
  have := h t.data.toList
  have e : t.data.toList.length = t.size := Array.length_toList
  unfold strT
  simp only [List.length_append, List.length_cons, List.length_nil]
  omega
theorem numT_len {h : Int} (h1 : -18014398509481984 ≤ h) (h2 : h ≤ 18014398509481984) (h3 : h % 2 = 0 ∨ (-9007199254740992 < h ∧ h < 9007199254740992)) : (numT h).length ≤ 24 := by
  unfold numT
  split
  · rename_i h0
    have e := Int.mul_tdiv_add_tmod h 2
    have := intText_len (n := h.tdiv 2) (by omega) (by omega)
    omega
  · rename_i h0
    have hne : h % 2 ≠ 0 := fun e => h0 (Int.tmod_eq_zero_of_dvd (Int.dvd_of_emod_eq_zero e))
    refine numBytes_len h ?_ ?_ <;> omega
mutual
theorem txt_len : ∀ {x : RV}, x.Good → x.txt.length + 10 ≤ 40 * (x.nodes + x.bytes)
  | .mk k h t l ks vs, hg => by
    unfold RV.Good at hg
    obtain ⟨-, -, -, -, -, -, hkv, h1, h2, h3, -, hl, -, -, hv⟩ := hg
    have e1 := txtC_len hl
    have e2 := txtM_len hkv hv
    have e3 := numT_len h1 h2 h3
    have e4 := strT_len t
    unfold RV.txt RV.nodes RV.bytes
    repeat' split
    all_goals (try simp only [List.length_append, List.length_cons, List.length_nil, List.length_drop])
    all_goals omega
theorem txtC_len : ∀ {l : List RV}, RV.GoodL l → (RV.txtC l).length ≤ 40 * (RV.nodesL l + RV.bytesL l)
  | [], _ => by simp [RV.txtC]
  | x :: xs, hg => by
    unfold RV.GoodL at hg
    have e1 := txt_len hg.1
    have e2 := txtC_len hg.2
    unfold RV.txtC RV.nodesL RV.bytesL
    simp only [List.length_append, List.length_cons]
    omega
theorem txtM_len : ∀ {ks : List ByteArray} {vs : List RV}, ks.length = vs.length → RV.GoodL vs → (RV.txtM ks vs).length ≤ 40 * (RV.nodesL vs + RV.bytesL vs + keysSize ks)
  | _, [], _, _ => by simp [RV.txtM]
  | [], x :: xs, he, _ => by simp at he
  | k :: ks, x :: xs, he, hg => by
    unfold RV.GoodL at hg
    have e1 := txt_len hg.1
    have e2 := txtM_len (ks := ks) (vs := xs) (by simpa using he) hg.2
    have e3 := strT_len k
    unfold RV.txtM RV.nodesL RV.bytesL keysSize
    simp only [List.length_append, List.length_cons, List.headD_cons, List.tail_cons]
    omega
end
end Go.Proofs.YtjpcdbopioblaaaGreatDoor

/- The program's own values whose blocks lie in a given set. -/
namespace Go.Proofs.YtjpcdbopioblaaaGreatDoor
open Go.RowKit

mutual
/-- The tree lies in the world as a value of the program, in blocks of the set S alone. -/
def RV.GoS (w : World) (S : Nat → Prop) (x : Value) : RV → Prop
  | .mk k h t l ks vs =>
    (k = 0 ∧ x = .nilIface) ∨ (k = 1 ∧ x = .iface 4 (.bool false)) ∨ (k = 2 ∧ x = .iface 4 (.bool true)) ∨ (k = 3 ∧ x = numG h) ∨ (k = 4 ∧ x = .iface 9 (.string t)) ∨
    (k = 5 ∧ ∃ a cap, x = .iface 87 (.slice a l.length cap) ∧ RV.GoSL w S a 0 l) ∨
    (k = 6 ∧ ∃ r n xs, x = .iface 90 (.map (some r)) ∧ S r ∧ n ≤ 1000000 ∧ w.ownsMap Tryz.prog 9 heldR r n (mapD ks xs) ∧ xs.length = ks.length ∧ RV.GoSV w S xs vs)
def RV.GoSL (w : World) (S : Nat → Prop) (a : Option Addr) (i : Nat) : List RV → Prop
  | [] => True
  | y :: ys => (∃ b o x, a = some ⟨b, o, none⟩ ∧ S b ∧ w.cell? ⟨b, o + i, none⟩ = some x ∧ RV.GoS w S x y) ∧ RV.GoSL w S a (i + 1) ys
def RV.GoSV (w : World) (S : Nat → Prop) (xs : List Value) : List RV → Prop
  | [] => xs = []
  | y :: ys => ∃ x r, xs = x :: r ∧ RV.GoS w S x y ∧ RV.GoSV w S r ys
end

/-- Blocks of the set stand as they stood, and the set may grow. -/
def SameOn (S : Nat → Prop) (w w' : World) : Prop := ∀ k, S k → k < w.heap.size → w'.heap[k]? = w.heap[k]?
theorem SameOn.cell {S : Nat → Prop} {w w' : World} (h : SameOn S w w') {b o : Nat} {v : Value} (hb : S b) (hc : w.cell? ⟨b, o, none⟩ = some v) : w'.cell? ⟨b, o, none⟩ = some v :=
  (World.cell?_of_block (h b hb (cell_lt hc))).trans hc
theorem SameOn.map {S : Nat → Prop} {w w' : World} (h : SameOn S w w') {r n : Nat} {D : DataW Value} (hb : S r) (hm : w.ownsMap Tryz.prog 9 heldR r n D) : w'.ownsMap Tryz.prog 9 heldR r n D := by
  have hlt := hm.lt
  obtain ⟨es, clock, h1, h2⟩ := hm
  exact ⟨es, clock, (h r hb hlt).trans h1, h2⟩
theorem SameOn.of_below {S : Nat → Prop} {w w' : World} (h : Below w.heap.size w w') : SameOn S w w' := fun k _ hk => h.block k hk
theorem SameOn.of_gb {S : Nat → Prop} {w w' : World} {g : Nat} (h : w.grownBy w' (some g)) (hg : ¬ S g) : SameOn S w w' := fun k hb hk => h.block k hk (fun e => by cases e; exact hg hb)
mutual
theorem RV.GoS.keep {w w' : World} {S S' : Nat → Prop} (hs : SameOn S w w') (hS : ∀ k, S k → k < w.heap.size → S' k) : ∀ {y : RV} {x : Value}, y.GoS w S x → y.GoS w' S' x
  | .mk k h t l ks vs, x, hr => by
    unfold RV.GoS at hr ⊢
    rcases hr with e | e | e | e | e | ⟨e, a, cap, hx, hl⟩ | ⟨e, r, n, xs, hx, hb, hn, hm, hxs, hv⟩
    · exact .inl e
    · exact .inr (.inl e)
    · exact .inr (.inr (.inl e))
    · exact .inr (.inr (.inr (.inl e)))
    · exact .inr (.inr (.inr (.inr (.inl e))))
    · exact .inr (.inr (.inr (.inr (.inr (.inl ⟨e, a, cap, hx, RV.GoSL.keep hs hS hl⟩)))))
    · exact .inr (.inr (.inr (.inr (.inr (.inr ⟨e, r, n, xs, hx, hS r hb hm.lt, hn, hs.map hb hm, hxs, RV.GoSV.keep hs hS hv⟩)))))
theorem RV.GoSL.keep {w w' : World} {S S' : Nat → Prop} (hs : SameOn S w w') (hS : ∀ k, S k → k < w.heap.size → S' k) : ∀ {l : List RV} {a : Option Addr} {i : Nat}, RV.GoSL w S a i l → RV.GoSL w' S' a i l
  | [], _, _, _ => by unfold RV.GoSL; trivial
  | y :: ys, a, i, hr => by
    unfold RV.GoSL at hr ⊢
    obtain ⟨⟨b, o, x, e, hb, hc, hy⟩, h2⟩ := hr
    exact ⟨⟨b, o, x, e, hS b hb (cell_lt hc), hs.cell hb hc, RV.GoS.keep hs hS hy⟩, RV.GoSL.keep hs hS h2⟩
theorem RV.GoSV.keep {w w' : World} {S S' : Nat → Prop} (hs : SameOn S w w') (hS : ∀ k, S k → k < w.heap.size → S' k) : ∀ {l : List RV} {xs : List Value}, RV.GoSV w S xs l → RV.GoSV w' S' xs l
  | [], _, hr => by unfold RV.GoSV at hr ⊢; exact hr
  | y :: ys, xs, hr => by
    unfold RV.GoSV at hr ⊢
    obtain ⟨x, r, e, hy, h2⟩ := hr
    exact ⟨x, r, e, RV.GoS.keep hs hS hy, RV.GoSV.keep hs hS h2⟩
end
mutual
theorem RV.Go.toS {w : World} {base : Nat} : ∀ {y : RV} {x : Value}, y.Go w base x → y.GoS w (fun k => base ≤ k) x
  | .mk k h t l ks vs, x, hr => by
    unfold RV.Go at hr
    unfold RV.GoS
    rcases hr with e | e | e | e | e | ⟨e, a, cap, hx, hl⟩ | ⟨e, r, n, xs, hx, hb, hn, hm, hxs, hv⟩
    · exact .inl e
    · exact .inr (.inl e)
    · exact .inr (.inr (.inl e))
    · exact .inr (.inr (.inr (.inl e)))
    · exact .inr (.inr (.inr (.inr (.inl e))))
    · exact .inr (.inr (.inr (.inr (.inr (.inl ⟨e, a, cap, hx, RV.GoL.toS hl⟩)))))
    · exact .inr (.inr (.inr (.inr (.inr (.inr ⟨e, r, n, xs, hx, hb, hn, hm, hxs, RV.GoV.toS hv⟩)))))
theorem RV.GoL.toS {w : World} {base : Nat} : ∀ {l : List RV} {a : Option Addr} {i : Nat}, RV.GoL w base a i l → RV.GoSL w (fun k => base ≤ k) a i l
  | [], _, _, _ => by unfold RV.GoSL; trivial
  | y :: ys, a, i, hr => by
    unfold RV.GoL at hr
    unfold RV.GoSL
    obtain ⟨⟨b, o, x, e, hb, hc, hy⟩, h2⟩ := hr
    exact ⟨⟨b, o, x, e, hb, hc, RV.Go.toS hy⟩, RV.GoL.toS h2⟩
theorem RV.GoV.toS {w : World} {base : Nat} : ∀ {l : List RV} {xs : List Value}, RV.GoV w base xs l → RV.GoSV w (fun k => base ≤ k) xs l
  | [], _, hr => by unfold RV.GoV at hr; unfold RV.GoSV; exact hr
  | y :: ys, xs, hr => by
    unfold RV.GoV at hr
    unfold RV.GoSV
    obtain ⟨x, r, e, hy, h2⟩ := hr
    exact ⟨x, r, e, RV.Go.toS hy, RV.GoV.toS h2⟩
end
mutual
theorem RV.GoS.toGo {w : World} : ∀ {y : RV} {x : Value} {S : Nat → Prop}, y.GoS w S x → y.Go w 0 x
  | .mk k h t l ks vs, x, S, hr => by
    unfold RV.GoS at hr
    unfold RV.Go
    rcases hr with e | e | e | e | e | ⟨e, a, cap, hx, hl⟩ | ⟨e, r, n, xs, hx, hb, hn, hm, hxs, hv⟩
    · exact .inl e
    · exact .inr (.inl e)
    · exact .inr (.inr (.inl e))
    · exact .inr (.inr (.inr (.inl e)))
    · exact .inr (.inr (.inr (.inr (.inl e))))
    · exact .inr (.inr (.inr (.inr (.inr (.inl ⟨e, a, cap, hx, RV.GoSL.toGo hl⟩)))))
    · exact .inr (.inr (.inr (.inr (.inr (.inr ⟨e, r, n, xs, hx, Nat.zero_le _, hn, hm, hxs, RV.GoSV.toGo hv⟩)))))
theorem RV.GoSL.toGo {w : World} : ∀ {l : List RV} {a : Option Addr} {i : Nat} {S : Nat → Prop}, RV.GoSL w S a i l → RV.GoL w 0 a i l
  | [], _, _, _, _ => by unfold RV.GoL; trivial
  | y :: ys, a, i, S, hr => by
    unfold RV.GoSL at hr
    unfold RV.GoL
    obtain ⟨⟨b, o, x, e, hb, hc, hy⟩, h2⟩ := hr
    exact ⟨⟨b, o, x, e, Nat.zero_le _, hc, RV.GoS.toGo hy⟩, RV.GoSL.toGo h2⟩
theorem RV.GoSV.toGo {w : World} : ∀ {l : List RV} {xs : List Value} {S : Nat → Prop}, RV.GoSV w S xs l → RV.GoV w 0 xs l
  | [], _, _, hr => by unfold RV.GoSV at hr; unfold RV.GoV; exact hr
  | y :: ys, xs, S, hr => by
    unfold RV.GoSV at hr
    unfold RV.GoV
    obtain ⟨x, r, e, hy, h2⟩ := hr
    exact ⟨x, r, e, RV.GoS.toGo hy, RV.GoSV.toGo h2⟩
end
theorem RV.GoSV.get {w : World} {S : Nat → Prop} : ∀ {l : List RV} {xs : List Value}, RV.GoSV w S xs l → ∀ (j : Nat) (h : j < l.length) (h' : j < xs.length), l[j].GoS w S xs[j]
  | _ :: _, _, hr, 0, _, _ => by
    unfold RV.GoSV at hr
    obtain ⟨x, r, rfl, hg, _⟩ := hr
    simpa using hg
  | _ :: ys, _, hr, j + 1, h, h' => by
    unfold RV.GoSV at hr
    obtain ⟨x, r, rfl, _, h2⟩ := hr
    simpa using RV.GoSV.get h2 j (by simpa using h) (by simpa using h')
theorem RV.GoSV.of {w : World} {S : Nat → Prop} : ∀ (l : List RV) (xs : List Value), xs.length = l.length → (∀ (j : Nat) (h : j < l.length) (h' : j < xs.length), l[j].GoS w S xs[j]) → RV.GoSV w S xs l
  | [], [], _, _ => by unfold RV.GoSV; rfl
  | y :: ys, x :: r, hl, h => by
    unfold RV.GoSV
    exact ⟨x, r, rfl, h 0 (by simp) (by simp), RV.GoSV.of ys r (by simpa using hl) fun j hj hj' => h (j + 1) (by simpa using hj) (by simpa using hj')⟩
theorem RV.GoS.shape {w : World} {S : Nat → Prop} {x : Value} {y : RV} (hr : y.GoS w S x) : x = .nilIface ∨ ∃ t z, x = .iface t z := hr.toGo.shape
end Go.Proofs.YtjpcdbopioblaaaGreatDoor

/- encodeArray walked, for whatever writer. -/
namespace Go.Proofs.YtjpcdbopioblaaaGreatDoor
open Go.RowKit

/-- What encode does for a tree of at most n values. -/
def EncIH (K : Wr) (n : Nat) : Prop := ∀ (x : RV) (v : Value) (B b eb : Nat) (l0 : List UInt8) (w : World), x.nodes ≤ n → x.Good → x.GoS w (fun k => k < B) v → EncS K B b eb l0 w → (∀ W, Below B w W → Tabs W) → l0.length + 40 * (x.nodes + x.bytes) ≤ 140737488355000 →
  Calls Tryz.prog 77 #[.pointer (some ⟨eb, 0, none⟩), v] w (EncPost K B b eb (l0 ++ x.txt) w)
theorem same_lt {B : Nat} {w w' : World} (h : Below B w w') : SameOn (fun k => k < B) w w' := fun k hk _ => h.block k hk
theorem RV.GoSL.get {w : World} {S : Nat → Prop} {a : Option Addr} : ∀ {l : List RV} {i : Nat}, RV.GoSL w S a i l → ∀ (j : Nat) (h : j < l.length), ∃ b o x, a = some ⟨b, o, none⟩ ∧ w.cell? ⟨b, o + (i + j), none⟩ = some x ∧ RV.GoS w S x l[j]
  | [], _, _, j, h => absurd h (by simp)
  | y :: ys, i, hr, j, h => by
    unfold RV.GoSL at hr
    obtain ⟨⟨b, o, x, e, hb, hc, hy⟩, h2⟩ := hr
    cases j with
    | zero => exact ⟨b, o, x, e, hc, hy⟩
    | succ j =>
      obtain ⟨b', o', x', e', hc', hy'⟩ := RV.GoSL.get h2 j (by simpa using h)
      exact ⟨b', o', x', e', by rw [show i + (j + 1) = i + 1 + j by omega]; exact hc', hy'⟩
theorem nodesL_take_le (l : List RV) (i : Nat) : RV.nodesL (l.take i) ≤ RV.nodesL l ∧ RV.bytesL (l.take i) ≤ RV.bytesL l := by
  induction l generalizing i with
  | nil => simp
  | cons x l ih =>
    cases i with
    | zero => simp [RV.nodesL, RV.bytesL]
    | succ i =>
      have := ih i
      simp only [List.take_succ_cons, RV.nodesL, RV.bytesL]
      omega
theorem goodL_take {l : List RV} (h : RV.GoodL l) (i : Nat) : RV.GoodL (l.take i) := by
  induction l generalizing i with
  | nil => simpa using h
  | cons x l ih =>
    cases i with
    | zero => unfold RV.GoodL; trivial
    | succ i =>
      unfold RV.GoodL at h
      simp only [List.take_succ_cons]
      unfold RV.GoodL
      exact ⟨h.1, ih h.2 i⟩
theorem enc_bound {l : List RV} {i : Nat} (h : i < l.length) (hg : RV.GoodL l) : (RV.txtC (l.take i)).length + 40 * (l[i].nodes + l[i].bytes) ≤ 40 * (RV.nodesL l + RV.bytesL l) := by
  have h1 := txtC_len (goodL_take hg i)
  have h2 := nodesL_take_le l (i + 1)
  rw [RV.nodesL_take_succ h, RV.bytesL_take_succ h] at h2
  omega
set_option maxRecDepth 100000 in
set_option maxHeartbeats 1600000 in
theorem encodeArray_any {K : Wr} (hKp : K.Keeps) (hKb : K.Bytes) (n : Nat) (ih : EncIH K n) (l : List RV) (a : Option Addr) (cap B b eb : Nat) (l0 : List UInt8) (w : World) (hn : RV.nodesL l ≤ n) (hg : RV.GoodL l) (hr : RV.GoSL w (fun k => k < B) a 0 l) (hS : EncS K B b eb l0 w) (hT : ∀ W, Below B w W → Tabs W) (hlen : l0.length + 40 * (RV.nodesL l + RV.bytesL l) + 40 ≤ 140737488355000) :
    Calls Tryz.prog 132 #[.pointer (some ⟨eb, 0, none⟩), .slice a l.length cap] w (EncPost K B b eb (l0 ++ (91 :: (RV.txtC l).drop 1 ++ [93])) w) := by
  have HS := Lib.hid hS
  have HT := Lib.hid hT
  have HL := Lib.hid hlen
  have HIH := Lib.hid ih
  have HG := Lib.hid (And.intro hg hn)
  have HR := Lib.hid hr
  have hc0 := hS.iface
  have hl2 : l.length ≤ 140737488355000 := by have := RV.len_le l; omega
  clear hS hT hlen ih hg hn hr
  have hmb := hKb.meth
  have henb := hKb.enter
  unfold EncPost
  go_enter Tryz.func132, Tryz.ntmps132
  go_wp2_with fail
  refine (hKb.write B b l0 91 _ HS.out.bld (by have := HL.out; omega) HS.out.size).mono ?_
  rintro e w1 ⟨rfl, hw1⟩
  have H1 := Lib.hid (show EncS K B b eb (l0 ++ 91 :: (RV.txtC (l.take 0)).drop 1) w1 ∧ Below B w w1 ∧ EKept b eb w w1 from ⟨by simpa [RV.txtC] using HS.out.wrote hw1, hw1.2.1, EKept.of_others hw1.2.2⟩)
  clear hw1 hc0
  go_wp2_with fail
  go_loopg [13] l.length (fun gk s13 wr => ∃ i : Nat, s13 = .int .i64 i ∧ i ≤ l.length ∧ gk = l.length - i ∧ Hid (EncS K B b eb (l0 ++ 91 :: (RV.txtC (l.take i)).drop 1) wr ∧ Below B w wr ∧ EKept b eb w wr))
  case atStart => exact ⟨0, rfl, Nat.zero_le _, rfl, H1⟩
  case round =>
    obtain ⟨i, rfl, hi, rfl, HE⟩ := hrel
    by_cases hlt : i < l.length
    · obtain ⟨ab, ao, v, rfl, hcv, hgv⟩ := (HR.out.keep (same_lt HE.out.2.1) (fun _ h _ => h)).get i hlt
      have HV := Lib.hid hgv
      simp only [Nat.zero_add] at hcv
      have hci := HE.out.1.iface
      have hj : (i : Int) < (l.length : Int) := by omega
      have HB := Lib.hid (enc_bound (l := l) (i := i) hlt HG.out.1)
      have HTX := Lib.hid (txtC_take (l := l) hlt)
      clear hgv hi
      by_cases h0 : i = 0
      · subst h0
        rw [Nat.add_zero] at hcv
        go_wp2_with fail
        refine (HIH.out l[0] v B b eb _ wr (Nat.le_trans (RV.nodes_le hlt) HG.out.2) (HG.out.1.get 0 hlt) HV.out HE.out.1 (fun W h => HT.out W (HE.out.2.1.trans h)) (by have h1 := HL.out; have h2 := HB.out; simp [RV.txtC] at h2 ⊢; omega)).mono ?_
        rintro e w3 ⟨rfl, he3, hb3, hk3⟩
        have HE3 := Lib.hid (show EncS K B b eb (l0 ++ 91 :: (RV.txtC (l.take (0 + 1))).drop 1) w3 ∧ Below B w w3 ∧ EKept b eb w w3 from ⟨by rw [HTX.out]; simpa using he3, HE.out.2.1.trans hb3, HE.out.2.2.trans hk3⟩)
        clear he3 hb3 hk3 hcv hci
        go_wp2_with fail
        go_roundg (l.length - (0 + 1))
        case measure => omega
        case rel => exact ⟨0 + 1, by go_num, by omega, rfl, HE3⟩
      · have hp : (0 : Int) < (i : Int) := by omega
        go_wp2_with fail
        refine (hKb.write B b _ 44 _ HE.out.1.bld (by have h1 := HL.out; have h2 := HB.out; simp; omega) HE.out.1.size).mono ?_
        rintro e w2 ⟨rfl, hw2⟩
        have HW2 := Lib.hid hw2
        clear hw2 hci
        go_wp2_with fail
        refine (HIH.out l[i] v B b eb _ w2 (Nat.le_trans (RV.nodes_le hlt) HG.out.2) (HG.out.1.get i hlt) (HV.out.keep (same_lt HW2.out.2.1) (fun _ h _ => h)) (HE.out.1.wrote HW2.out) (fun W h => HT.out W (HE.out.2.1.trans (HW2.out.2.1.trans h))) (by have h1 := HL.out; have h2 := HB.out; simp; omega)).mono ?_
        rintro e w3 ⟨rfl, he3, hb3, hk3⟩
        have HE3 := Lib.hid (show EncS K B b eb (l0 ++ 91 :: (RV.txtC (l.take (i + 1))).drop 1) w3 ∧ Below B w w3 ∧ EKept b eb w w3 from ⟨by rw [HTX.out, if_neg h0]; simpa using he3, HE.out.2.1.trans (HW2.out.2.1.trans hb3), HE.out.2.2.trans ((EKept.of_others HW2.out.2.2).trans hk3)⟩)
        clear he3 hb3 hk3 hcv
        go_wp2_with fail
        go_roundg (l.length - (i + 1))
        case measure => omega
        case rel => exact ⟨i + 1, by go_num, by omega, rfl, HE3⟩
    · obtain rfl : i = l.length := by omega
      have hci := HE.out.1.iface
      have HB := Lib.hid (txtC_len HG.out.1)
      clear hi hlt
      go_wp2_with fail
      refine (hKb.write B b _ 93 _ HE.out.1.bld (by have h1 := HL.out; have h2 := HB.out; simp; omega) HE.out.1.size).mono ?_
      rintro e w3 ⟨rfl, hw3⟩
      have HW3 := Lib.hid hw3
      clear hw3 hci
      go_wp2_with fail
      go_end0
      refine ⟨rfl, ?_, HE.out.2.1.trans HW3.out.2.1, HE.out.2.2.trans (EKept.of_others HW3.out.2.2)⟩
      have h3 := HE.out.1.wrote HW3.out
      rw [List.take_length] at h3
      simpa using h3
end Go.Proofs.YtjpcdbopioblaaaGreatDoor

/- Maps by their keys: plain laws, no walk. -/
namespace Go.Proofs.YtjpcdbopioblaaaGreatDoor
open Go.RowKit

theorem before_eq : ∀ (a b : List UInt8), bytesBefore a b = Op.bytesLess a b
  | [], [] => rfl
  | [], _ :: _ => rfl
  | _ :: _, [] => rfl
  | a :: r, b :: s => by simp only [bytesBefore, Op.bytesLess, before_eq r s]

theorem less_trans (a b c : List UInt8) (h1 : Op.bytesLess a b = true) (h2 : Op.bytesLess b c = true) : Op.bytesLess a c = true := by
  rw [← before_eq] at *; exact WideShapes.bytes_trans a b c h1 h2
theorem less_irrefl (a : List UInt8) : Op.bytesLess a a = false := by rw [← before_eq]; exact WideAt.bytes_irrefl a
theorem less_total (a b : List UInt8) (h : a ≠ b) : Op.bytesLess a b = true ∨ Op.bytesLess b a = true := by
  rw [← before_eq, ← before_eq]; exact WideAt.bytes_total a b h

theorem KeysUp.lt {ks : List ByteArray} (h : KeysUp ks) : ∀ (d i : Nat) (hj : i + d + 1 < ks.length), Op.bytesLess (ks[i]'(by omega)).toList ks[i + d + 1].toList = true
  | 0, i, hj => h i hj
  | d + 1, i, hj => less_trans _ _ _ (h.lt d i (by omega)) (h (i + d + 1) hj)
theorem KeysUp.lt' {ks : List ByteArray} (h : KeysUp ks) {i j : Nat} (hij : i < j) (hj : j < ks.length) : Op.bytesLess (ks[i]'(by omega)).toList ks[j].toList = true := by
  obtain ⟨d, rfl⟩ : ∃ d, j = i + d + 1 := ⟨j - i - 1, by omega⟩
  exact h.lt d i hj

theorem insert_last {H : Type} (x : Lit × DataW H) : ∀ (l : List (Lit × DataW H)), (∀ y ∈ l, x.1.before y.1 = false) → DataW.insert x l = l ++ [x]
  | [], _ => rfl
  | y :: r, h => by
    unfold DataW.insert
    rw [if_neg (by simp [h y (by simp)]), insert_last x r fun z hz => h z (by simp [hz])]
    rfl

/-- A key behind all others is put at the end. -/
theorem mapD_put (ks : List ByteArray) (xs : List Value) (key : ByteArray) (x : Value) (hl : xs.length = ks.length) (hk : ∀ y ∈ ks, Op.bytesLess y.toList key.toList = true) :
    (mapD ks xs).put (.string key.data.toList) (.held x) = mapD (ks ++ [key]) (xs ++ [x]) := by
  unfold mapD DataW.put
  simp only
  have hne : ∀ y ∈ ks, y.data.toList ≠ key.data.toList := by
    intro y hy e
    have := hk y hy
    rw [ByteArray.toList_eq, ByteArray.toList_eq, e, less_irrefl] at this
    cases this
  have hf : ((ks.zip xs).map fun p => ((Lit.string p.1.data.toList, DataW.held p.2) : Lit × DataW Value)).filter (fun p => !p.1.sameKey (.string key.data.toList)) = (ks.zip xs).map fun p => (Lit.string p.1.data.toList, DataW.held p.2) := by
    rw [List.filter_eq_self]
    intro p hp
    obtain ⟨q, hq, rfl⟩ := List.mem_map.1 hp
    have := hne q.1 (List.of_mem_zip hq).1
    simpa [Lit.sameKey] using this
  rw [hf, insert_last]
  · rw [List.zip_append hl.symm]
    simp
  · intro y hy
    obtain ⟨q, hq, rfl⟩ := List.mem_map.1 hy
    have h1 := hk q.1 (List.of_mem_zip hq).1
    rw [ByteArray.toList_eq, ByteArray.toList_eq] at h1
    simp only [Lit.before]
    rw [before_eq]
    cases h2 : Op.bytesLess key.data.toList q.1.data.toList
    · rfl
    · have := less_trans _ _ _ h1 h2
      rw [less_irrefl] at this
      cases this

theorem RV.GoV.snoc {w : World} {base : Nat} : ∀ {l : List RV} {xs : List Value} {y : RV} {x : Value}, RV.GoV w base xs l → y.Go w base x → RV.GoV w base (xs ++ [x]) (l ++ [y])
  | [], _, y, x, h, hy => by
    unfold RV.GoV at h
    subst h
    simp only [List.nil_append]
    unfold RV.GoV
    exact ⟨x, [], rfl, hy, by unfold RV.GoV; rfl⟩
  | z :: l, xs, y, x, h, hy => by
    unfold RV.GoV at h
    obtain ⟨u, r, rfl, hu, h2⟩ := h
    simp only [List.cons_append]
    unfold RV.GoV
    exact ⟨u, r ++ [x], rfl, hu, RV.GoV.snoc h2 hy⟩
end Go.Proofs.YtjpcdbopioblaaaGreatDoor

/- A map of the program's, read at a key of its own. -/
namespace Go.Proofs.YtjpcdbopioblaaaGreatDoor
open Go.RowKit Go.WideMaps Go.Maps Go.WideElems

theorem mapD_get (ks : List ByteArray) (xs : List Value) (hl : xs.length = ks.length) (hu : KeysUp ks) (i : Nat) (hi : i < ks.length) (hx : i < xs.length) (z : DataW Value) :
    (mapD ks xs).atKey (.string ks[i].data.toList) z = .held xs[i] := by
  unfold mapD
  refine WideAt.atKey_mem z trivial ?_ ?_
  · refine List.pairwise_iff_getElem.2 fun a b ha hb hab => ?_
    simp only [List.length_map, List.length_zip] at ha hb
    have ha' : a < ks.length := by omega
    have hb' : b < ks.length := by omega
    simp only [List.getElem_map, List.getElem_zip]
    intro e
    have hlt := hu.lt' hab hb'
    have e2 : ks[a].data.toList = ks[b].data.toList := by injection e
    rw [ByteArray.toList_eq, ByteArray.toList_eq, e2, less_irrefl] at hlt
    cases hlt
  · refine List.mem_map.2 ⟨(ks[i], xs[i]), ?_, rfl⟩
    rw [List.mem_iff_getElem]
    exact ⟨i, by simp; omega, by simp⟩

theorem size_mapD (ks : List ByteArray) (xs : List Value) (hl : xs.length = ks.length) : Maps.size (mapD ks xs) = ks.length := by
  unfold mapD Maps.size
  simp [hl]

set_option maxRecDepth 100000 in
theorem lookup_run (w : World) (r n : Nat) (ks : List ByteArray) (xs : List Value) (hm : w.ownsMap Tryz.prog 9 heldR r n (mapD ks xs)) (hl : xs.length = ks.length) (hu : KeysUp ks) (i : Nat) (hi : i < ks.length) (hx : i < xs.length) (hs : ks[i].size ≤ maxLen) :
    (Instr.lookup 90 (.map (some r)) (.string ks[i]) false).run Tryz.prog w = .ok xs[i] w := by
  have hg := mapD_get ks xs hl hu i hi hx .nil
  obtain ⟨es, clock, hb, F, hn, hD⟩ := hm
  have zero : (zeroValue 20).run Tryz.prog w = .ok .nilIface w := by kernel_rfl
  rw [hD] at hg
  rcases fit_lookup (w := w) (string_law Tryz.underlying9) Tryz.underlying90 zero hb F (keyOf_string_mk (s := ks[i]) Tryz.underlying9 hs) with ⟨_, hat⟩ | ⟨v, y, hrun, hR, hat, _⟩
  · rw [hat] at hg; cases hg
  · rw [hat] at hg
    unfold heldR at hR
    injection hR with hR
    subst hR
    injection hg with hg
    subst hg
    exact hrun
end Go.Proofs.YtjpcdbopioblaaaGreatDoor

/- Products of objects, plainly: what the merged tree is, that it is one tree, how great it is. No walk. -/
namespace Go.Proofs.YtjpcdbopioblaaaGreatDoor
open Go.RowKit

def RV.kd : RV → Int | .mk k _ _ _ _ _ => k
def RV.keys : RV → List ByteArray | .mk _ _ _ _ ks _ => ks
def RV.vals : RV → List RV | .mk _ _ _ _ _ vs => vs
/-- At this key the map has this value. -/
def RV.AtR (t : RV) (key : ByteArray) (y : RV) : Prop := ∃ i, ∃ (h : i < t.keys.length) (h' : i < t.vals.length), t.keys[i] = key ∧ t.vals[i] = y
/-- The product of two maps. -/
def MergeN : Nat → RV → RV → RV → Prop
  | 0, _, _, _ => False
  | n + 1, a, b, c => ∃ ks zs, c = .mk 6 0 ByteArray.empty [] ks zs ∧ KeysUp ks ∧ ks.length = zs.length ∧ (∀ key, key ∈ ks ↔ key ∈ a.keys ∨ key ∈ b.keys) ∧
      ∀ i, ∀ (h : i < ks.length) (h' : i < zs.length),
        (∀ y, b.AtR ks[i] y → (∀ x, a.AtR ks[i] x → (x.kd = 6 ∧ y.kd = 6 → MergeN n x y zs[i]) ∧ (¬ (x.kd = 6 ∧ y.kd = 6) → zs[i] = y)) ∧ (ks[i] ∉ a.keys → zs[i] = y)) ∧
        (ks[i] ∉ b.keys → ∀ x, a.AtR ks[i] x → zs[i] = x)

theorem KeysUp.ne {ks : List ByteArray} (h : KeysUp ks) {i j : Nat} (hi : i < ks.length) (hj : j < ks.length) (hij : i < j) : ks[i] ≠ ks[j] := fun e => by
  have := h.lt' hij hj
  rw [e, less_irrefl] at this
  cases this
theorem KeysUp.nodup {ks : List ByteArray} (h : KeysUp ks) : ks.Nodup := by
  unfold List.Nodup
  exact List.pairwise_iff_getElem.2 fun i j hi hj hij => h.ne hi hj hij
theorem KeysUp.pairwise {ks : List ByteArray} (h : KeysUp ks) : ks.Pairwise (fun a b => Op.bytesLess a.toList b.toList = true) :=
  List.pairwise_iff_getElem.2 fun _ _ _ hj hij => h.lt' hij hj
theorem keys_ext : ∀ {ks ks' : List ByteArray}, ks.Pairwise (fun a b => Op.bytesLess a.toList b.toList = true) → ks'.Pairwise (fun a b => Op.bytesLess a.toList b.toList = true) → (∀ k, k ∈ ks ↔ k ∈ ks') → ks = ks'
  | [], [], _, _, _ => rfl
  | [], b :: r, _, _, h => by have := (h b).2 (by simp); simp at this
  | a :: l, [], _, _, h => by have := (h a).1 (by simp); simp at this
  | a :: l, b :: r, hp, hq, h => by
    have hp' := List.pairwise_cons.1 hp
    have hq' := List.pairwise_cons.1 hq
    have e : a = b := by
      have h1 := (h a).1 (by simp)
      have h2 := (h b).2 (by simp)
      rcases List.mem_cons.1 h1 with h1 | h1
      · exact h1
      · rcases List.mem_cons.1 h2 with h2 | h2
        · exact h2.symm
        · have h3 := less_trans _ _ _ (hq'.1 a h1) (hp'.1 b h2)
          rw [less_irrefl] at h3
          cases h3
    subst e
    rw [keys_ext hp'.2 hq'.2 fun k => ?_]
    constructor
    · intro hk
      rcases List.mem_cons.1 ((h k).1 (List.mem_cons_of_mem _ hk)) with h1 | h1
      · subst h1
        have := hp'.1 k hk
        rw [less_irrefl] at this
        cases this
      · exact h1
    · intro hk
      rcases List.mem_cons.1 ((h k).2 (List.mem_cons_of_mem _ hk)) with h1 | h1
      · subst h1
        have := hq'.1 k hk
        rw [less_irrefl] at this
        cases this
      · exact h1
theorem RV.Good.keys {t : RV} (h : t.Good) : KeysUp t.keys ∧ t.keys.length = t.vals.length ∧ RV.GoodL t.vals ∧ ∀ k ∈ t.keys, Lib.validD k.data.toList = true := by
  obtain ⟨k, h', s, l, ks, vs⟩ := t
  unfold RV.Good at h
  exact ⟨h.2.2.2.2.2.2.2.2.2.2.2.2.2.1, h.2.2.2.2.2.2.1, h.2.2.2.2.2.2.2.2.2.2.2.2.2.2, h.2.2.2.2.2.2.2.2.2.2.2.2.1⟩
theorem RV.AtR.mem {t : RV} {key : ByteArray} {y : RV} (h : t.AtR key y) : key ∈ t.keys := by
  obtain ⟨i, h1, _, rfl, _⟩ := h
  exact List.getElem_mem h1
theorem RV.AtR.of_mem {t : RV} (hg : t.Good) {key : ByteArray} (h : key ∈ t.keys) : ∃ y, t.AtR key y := by
  obtain ⟨i, h1, rfl⟩ := List.getElem_of_mem h
  exact ⟨t.vals[i]'(by rw [← hg.keys.2.1]; exact h1), i, h1, by rw [← hg.keys.2.1]; exact h1, rfl, rfl⟩
theorem RV.AtR.one {t : RV} (hg : t.Good) {key : ByteArray} {y y' : RV} (h : t.AtR key y) (h' : t.AtR key y') : y = y' := by
  obtain ⟨i, h1, h2, rfl, rfl⟩ := h
  obtain ⟨j, h3, h4, e, rfl⟩ := h'
  have : i = j := by
    rcases Nat.lt_trichotomy i j with hh | hh | hh
    · exact absurd e.symm (hg.keys.1.ne h1 h3 hh)
    · exact hh
    · exact absurd e (hg.keys.1.ne h3 h1 hh)
  subst this
  rfl
theorem RV.AtR.good {t : RV} (hg : t.Good) {key : ByteArray} {y : RV} (h : t.AtR key y) : y.Good := by
  obtain ⟨i, _, h2, _, rfl⟩ := h
  exact hg.keys.2.2.1.get i h2
/-- It is one tree. -/
theorem MergeN.det : ∀ {n m : Nat} {a b c c' : RV}, a.Good → b.Good → MergeN n a b c → MergeN m a b c' → c = c'
  | 0, _, _, _, _, _, _, _, h, _ => h.elim
  | _ + 1, 0, _, _, _, _, _, _, _, h => h.elim
  | n + 1, m + 1, a, b, c, c', ha, hb, h, h' => by
    obtain ⟨ks, zs, rfl, hu, hl, hm, hv⟩ := h
    obtain ⟨ks', zs', rfl, hu', hl', hm', hv'⟩ := h'
    have e := keys_ext hu.pairwise hu'.pairwise fun k => (hm k).trans (hm' k).symm
    subst e
    have ez : zs = zs' := by
      refine List.ext_getElem (by omega) fun i hi hi' => ?_
      have hk : i < ks.length := by omega
      obtain ⟨h1, h2⟩ := hv i hk hi
      obtain ⟨h1', h2'⟩ := hv' i hk hi'
      by_cases hkb : ks[i] ∈ b.keys
      · obtain ⟨y, hy⟩ := RV.AtR.of_mem hb hkb
        by_cases hka : ks[i] ∈ a.keys
        · obtain ⟨x, hx⟩ := RV.AtR.of_mem ha hka
          obtain ⟨g1, g2⟩ := (h1 y hy).1 x hx
          obtain ⟨g1', g2'⟩ := (h1' y hy).1 x hx
          by_cases hc : x.kd = 6 ∧ y.kd = 6
          · exact MergeN.det (hx.good ha) (hy.good hb) (g1 hc) (g1' hc)
          · rw [g2 hc, g2' hc]
        · rw [(h1 y hy).2 hka, (h1' y hy).2 hka]
      · have hka : ks[i] ∈ a.keys := ((hm _).1 (List.getElem_mem hk)).resolve_right hkb
        obtain ⟨x, hx⟩ := RV.AtR.of_mem ha hka
        rw [h2 hkb x hx, h2' hkb x hx]
    rw [ez]

theorem sum_zero : ∀ {l : List Nat}, (∀ n ∈ l, n = 0) → l.sum = 0
  | [], _ => rfl
  | x :: l, h => by rw [List.sum_cons, h x (by simp), sum_zero fun n hn => h n (List.mem_cons_of_mem _ hn)]
theorem le_sum : ∀ {l : List Nat} {x : Nat}, x ∈ l → x ≤ l.sum
  | y :: l, x, h => by
    rw [List.sum_cons]
    rcases List.mem_cons.1 h with rfl | h
    · omega
    · have := le_sum h; omega
theorem goodL_of : ∀ {l : List RV}, (∀ i (h : i < l.length), l[i].Good) → RV.GoodL l
  | [], _ => by unfold RV.GoodL; trivial
  | x :: l, h => by
    unfold RV.GoodL
    exact ⟨h 0 (by simp), goodL_of fun i hi => h (i + 1) (by simpa using hi)⟩
section
open Classical
/-- Weights of the pairs at a key. -/
noncomputable def atW (L : List (ByteArray × RV)) (f : ByteArray × RV → Nat) (k : ByteArray) : Nat := ((L.filter (fun p => p.1 = k)).map f).sum
theorem one_key (c : Nat) (x : ByteArray) : ∀ ks : List ByteArray, ks.Nodup → (ks.map fun k => if x = k then c else 0).sum ≤ c
  | [], _ => Nat.zero_le _
  | k :: ks, h => by
    obtain ⟨h1, h2⟩ := List.nodup_cons.1 h
    have ih := one_key c x ks h2
    simp only [List.map_cons, List.sum_cons]
    by_cases hx : x = k
    · subst hx
      have : (ks.map fun k => if x = k then c else 0).sum = 0 := by
        refine sum_zero ?_
        intro n hn
        obtain ⟨k, hk, rfl⟩ := List.mem_map.1 hn
        rw [if_neg (fun e : x = k => h1 (by rw [e]; exact hk))]
      rw [this, if_pos rfl, Nat.add_zero]
      exact Nat.le_refl _
    · rw [if_neg hx, Nat.zero_add]
      exact ih
theorem sum_cover (ks : List ByteArray) (hn : ks.Nodup) (f : ByteArray × RV → Nat) : ∀ L : List (ByteArray × RV), (ks.map (atW L f)).sum ≤ (L.map f).sum
  | [] => by
    have : (ks.map (atW [] f)).sum = 0 := by
      refine sum_zero ?_
      intro n h
      obtain ⟨k, _, rfl⟩ := List.mem_map.1 h
      rfl
    rw [this]; exact Nat.zero_le _
  | p :: L => by
    have ih := sum_cover ks hn f L
    have h1 := one_key (f p) p.1 ks hn
    have e : ∀ k, atW (p :: L) f k = (if p.1 = k then f p else 0) + atW L f k := fun k => by
      unfold atW
      rw [List.filter_cons]
      by_cases hk : p.1 = k
      · simp [hk]
      · simp [hk]
    have e2 : (ks.map (atW (p :: L) f)).sum = (ks.map fun k => if p.1 = k then f p else 0).sum + (ks.map (atW L f)).sum := by
      rw [List.map_congr_left (fun k _ => e k)]
      clear ih h1 hn
      induction ks with
      | nil => rfl
      | cons k ks ih => simp only [List.map_cons, List.sum_cons, ih]; omega
    rw [e2, List.map_cons, List.sum_cons]
    omega
theorem atW_ge {L : List (ByteArray × RV)} {f : ByteArray × RV → Nat} {p : ByteArray × RV} (h : p ∈ L) : f p ≤ atW L f p.1 := by
  unfold atW
  have h1 : f p ∈ ((L.filter (fun q => q.1 = p.1)).map f) := List.mem_map.2 ⟨p, List.mem_filter.2 ⟨h, by simp⟩, rfl⟩
  exact le_sum h1
theorem zip_nodes : ∀ (ks : List ByteArray) (vs : List RV), ks.length = vs.length → ((ks.zip vs).map fun p => p.2.nodes).sum = RV.nodesL vs
  | [], [], _ => rfl
  | k :: ks, v :: vs, h => by
    simp only [List.zip_cons_cons, List.map_cons, List.sum_cons, RV.nodesL]
    rw [zip_nodes ks vs (by simpa using h)]
theorem zip_bytes : ∀ (ks : List ByteArray) (vs : List RV), ks.length = vs.length → ((ks.zip vs).map fun p => p.1.size + p.2.bytes).sum = keysSize ks + RV.bytesL vs
  | [], [], _ => rfl
  | k :: ks, v :: vs, h => by
    simp only [List.zip_cons_cons, List.map_cons, List.sum_cons, RV.bytesL, keysSize]
    rw [zip_bytes ks vs (by simpa using h)]
    omega
theorem zip_le (f : ByteArray × RV → Nat) (F : ByteArray → Nat) : ∀ (ks : List ByteArray) (zs : List RV), ks.length = zs.length → (∀ i (h : i < ks.length) (h' : i < zs.length), f (ks[i], zs[i]) ≤ F ks[i]) → ((ks.zip zs).map f).sum ≤ (ks.map F).sum
  | [], [], _, _ => Nat.le_refl _
  | k :: ks, z :: zs, h, hf => by
    simp only [List.zip_cons_cons, List.map_cons, List.sum_cons]
    have h0 := hf 0 (by simp) (by simp)
    have ih := zip_le f F ks zs (by simpa using h) fun i h1 h2 => hf (i + 1) (by simpa using h1) (by simpa using h2)
    simp only [List.getElem_cons_zero] at h0
    omega
theorem map_add (F G : ByteArray → Nat) : ∀ ks : List ByteArray, (ks.map fun k => F k + G k).sum = (ks.map F).sum + (ks.map G).sum
  | [] => rfl
  | k :: ks => by simp only [List.map_cons, List.sum_cons, map_add F G ks]; omega
theorem RV.AtR.zip {t : RV} {key : ByteArray} {y : RV} (h : t.AtR key y) : (key, y) ∈ t.keys.zip t.vals := by
  obtain ⟨i, h1, h2, rfl, rfl⟩ := h
  rw [List.mem_iff_getElem]
  exact ⟨i, by simp; omega, by simp⟩
theorem RV.nodes_map (t : RV) : 1 + RV.nodesL t.vals ≤ t.nodes := by
  obtain ⟨k, h, s, l, ks, vs⟩ := t
  show 1 + RV.nodesL vs ≤ _
  unfold RV.nodes
  omega
theorem RV.bytes_map (t : RV) : keysSize t.keys + RV.bytesL t.vals ≤ t.bytes := by
  obtain ⟨k, h, s, l, ks, vs⟩ := t
  show keysSize ks + RV.bytesL vs ≤ _
  unfold RV.bytes
  omega
/-- A right value, no greater than both. -/
theorem MergeN.right : ∀ {n : Nat} {a b c : RV}, a.Good → b.Good → MergeN n a b c → c.Good ∧ c.nodes ≤ a.nodes + b.nodes ∧ c.bytes ≤ a.bytes + b.bytes
  | 0, _, _, _, _, _, h => h.elim
  | n + 1, a, b, c, ha, hb, h => by
    obtain ⟨ks, zs, rfl, hu, hl, hm, hv⟩ := h
    have key : ∀ i (h : i < ks.length) (h' : i < zs.length), zs[i].Good ∧ zs[i].nodes ≤ atW (a.keys.zip a.vals) (fun p => p.2.nodes) ks[i] + atW (b.keys.zip b.vals) (fun p => p.2.nodes) ks[i] ∧
        ks[i].size + zs[i].bytes ≤ atW (a.keys.zip a.vals) (fun p => p.1.size + p.2.bytes) ks[i] + atW (b.keys.zip b.vals) (fun p => p.1.size + p.2.bytes) ks[i] := fun i hk hi => by
      obtain ⟨h1, h2⟩ := hv i hk hi
      by_cases hkb : ks[i] ∈ b.keys
      · obtain ⟨y, hy⟩ := RV.AtR.of_mem hb hkb
        have y1 := atW_ge (f := fun p => p.2.nodes) hy.zip
        have y2 := atW_ge (f := fun p => p.1.size + p.2.bytes) hy.zip
        simp only at y1 y2
        by_cases hka : ks[i] ∈ a.keys
        · obtain ⟨x, hx⟩ := RV.AtR.of_mem ha hka
          have x1 := atW_ge (f := fun p => p.2.nodes) hx.zip
          have x2 := atW_ge (f := fun p => p.1.size + p.2.bytes) hx.zip
          simp only at x1 x2
          obtain ⟨g1, g2⟩ := (h1 y hy).1 x hx
          by_cases hc : x.kd = 6 ∧ y.kd = 6
          · obtain ⟨r1, r2, r3⟩ := MergeN.right (hx.good ha) (hy.good hb) (g1 hc)
            exact ⟨r1, by omega, by omega⟩
          · rw [g2 hc]
            exact ⟨hy.good hb, by omega, by omega⟩
        · rw [(h1 y hy).2 hka]
          exact ⟨hy.good hb, by omega, by omega⟩
      · have hka : ks[i] ∈ a.keys := ((hm _).1 (List.getElem_mem hk)).resolve_right hkb
        obtain ⟨x, hx⟩ := RV.AtR.of_mem ha hka
        have x1 := atW_ge (f := fun p => p.2.nodes) hx.zip
        have x2 := atW_ge (f := fun p => p.1.size + p.2.bytes) hx.zip
        simp only at x1 x2
        rw [h2 hkb x hx]
        exact ⟨hx.good ha, by omega, by omega⟩
    have hz : RV.GoodL zs := goodL_of fun i hi => (key i (by omega) hi).1
    refine ⟨?_, ?_, ?_⟩
    · unfold RV.Good
      refine ⟨by decide, by decide, .inr rfl, .inr rfl, .inr rfl, .inl rfl, hl, by decide, by decide, .inl rfl, by decide, by unfold RV.GoodL; trivial, ?_, hu, hz⟩
      intro k hk
      rcases (hm k).1 hk with h | h
      · exact ha.keys.2.2.2 k h
      · exact hb.keys.2.2.2 k h
    · have s1 := zip_le (fun p => p.2.nodes) (fun k => atW (a.keys.zip a.vals) (fun p => p.2.nodes) k + atW (b.keys.zip b.vals) (fun p => p.2.nodes) k) ks zs hl fun i h h' => (key i h h').2.1
      rw [zip_nodes ks zs hl, map_add] at s1
      have s2 := sum_cover ks hu.nodup (fun p => p.2.nodes) (a.keys.zip a.vals)
      have s3 := sum_cover ks hu.nodup (fun p => p.2.nodes) (b.keys.zip b.vals)
      rw [zip_nodes _ _ ha.keys.2.1] at s2
      rw [zip_nodes _ _ hb.keys.2.1] at s3
      have := a.nodes_map
      have := b.nodes_map
      have e1 : (RV.mk 6 0 ByteArray.empty [] ks zs).nodes = 1 + RV.nodesL [] + RV.nodesL zs := by rw [RV.nodes]
      have e2 : RV.nodesL [] = 0 := by rw [RV.nodesL]
      rw [e1, e2]
      omega
    · have s1 := zip_le (fun p => p.1.size + p.2.bytes) (fun k => atW (a.keys.zip a.vals) (fun p => p.1.size + p.2.bytes) k + atW (b.keys.zip b.vals) (fun p => p.1.size + p.2.bytes) k) ks zs hl fun i h h' => (key i h h').2.2
      rw [zip_bytes ks zs hl, map_add] at s1
      have s2 := sum_cover ks hu.nodup (fun p => p.1.size + p.2.bytes) (a.keys.zip a.vals)
      have s3 := sum_cover ks hu.nodup (fun p => p.1.size + p.2.bytes) (b.keys.zip b.vals)
      rw [zip_bytes _ _ ha.keys.2.1] at s2
      rw [zip_bytes _ _ hb.keys.2.1] at s3
      have := a.bytes_map
      have := b.bytes_map
      have e0 : ByteArray.empty.size = 0 := rfl
      have e1 : (RV.mk 6 0 ByteArray.empty [] ks zs).bytes = ByteArray.empty.size + RV.bytesL [] + keysSize ks + RV.bytesL zs := by rw [RV.bytes]
      have e2 : RV.bytesL [] = 0 := by rw [RV.bytesL]
      rw [e1, e2, e0]
      omega
end
end Go.Proofs.YtjpcdbopioblaaaGreatDoor

/- Products of objects: what the map holds while the second one's entries are laid in. No walk. -/
namespace Go.Proofs.YtjpcdbopioblaaaGreatDoor
open Go.RowKit Go.WideMaps Go.Maps

/-- A key as the map's datum has it. -/
def kS (key : ByteArray) : Lit := .string key.data.toList
theorem kS_inj {a b : ByteArray} (h : kS a = kS b) : a = b := by
  unfold kS at h
  injection h with h
  exact ByteArray.ext (Array.ext' h)
theorem kS_key (key : ByteArray) : WideAt.IsKeyLit (kS key) := trivial
theorem has_mapD {ks : List ByteArray} {xs : List Value} (hl : xs.length = ks.length) (k : Lit) : Maps.has (mapD ks xs) k = true ↔ ∃ key ∈ ks, k = kS key := by
  unfold mapD
  rw [Maps.has_eq, List.any_eq_true]
  constructor
  · rintro ⟨p, hp, hs⟩
    obtain ⟨q, hq, rfl⟩ := List.mem_map.1 hp
    refine ⟨q.1, (List.of_mem_zip hq).1, ?_⟩
    by_cases e : k = kS q.1
    · exact e
    · have := Maps.sameKey_ne (a := (Lit.string q.1.data.toList)) (b := k) (fun e2 => e e2.symm)
      rw [this] at hs
      cases hs
  · rintro ⟨key, hk, rfl⟩
    obtain ⟨i, hi, rfl⟩ := List.getElem_of_mem hk
    refine ⟨(.string ks[i].data.toList, .held (xs[i]'(by omega))), List.mem_map.2 ⟨(ks[i], xs[i]'(by omega)), ?_, rfl⟩, WideAt.sameKey_self (kS_key ks[i])⟩
    rw [List.mem_iff_getElem]
    exact ⟨i, by simp; omega, by simp⟩
theorem has_mapD_key {ks : List ByteArray} {xs : List Value} (hl : xs.length = ks.length) (key : ByteArray) : Maps.has (mapD ks xs) (kS key) = true ↔ key ∈ ks := by
  rw [has_mapD hl]
  constructor
  · rintro ⟨k, hk, e⟩; rw [kS_inj e]; exact hk
  · intro h; exact ⟨key, h, rfl⟩

/-- What stands at a key of both maps, or of the second one alone. -/
def Zb (N : Nat) (a b : RV) (key : ByteArray) (z : RV) : Prop := ∀ y, b.AtR key y → (∀ x, a.AtR key x → (x.kd = 6 ∧ y.kd = 6 → MergeN N x y z) ∧ (¬ (x.kd = 6 ∧ y.kd = 6) → z = y)) ∧ (key ∉ a.keys → z = y)
theorem list_choose {α : Type} : ∀ (n : Nat) (P : Nat → α → Prop), (∀ i, i < n → ∃ z, P i z) → ∃ zs : List α, zs.length = n ∧ ∀ i (h : i < zs.length), P i zs[i]
  | 0, _, _ => ⟨[], rfl, fun i h => absurd h (by simp)⟩
  | n + 1, P, h => by
    obtain ⟨z, hz⟩ := h 0 (by omega)
    obtain ⟨zs, hl, hp⟩ := list_choose n (fun i z => P (i + 1) z) fun i hi => h (i + 1) (by omega)
    refine ⟨z :: zs, by simp [hl], fun i hi => ?_⟩
    cases i with
    | zero => exact hz
    | succ i => exact hp i (by simpa using hi)
/-- While the second map's entries are laid in: those not 'left'. -/
structure MJ (N : Nat) (a b : RV) (xa xb : List Value) (T : Nat → Prop) (wr : World) (Dm : DataW Value) (left : Lit → Bool) : Prop where
  has : ∀ k, Maps.has Dm k = (Maps.has (mapD a.keys xa) k || (Maps.has (mapD b.keys xb) k && !left k))
  new : ∀ key, key ∈ b.keys → left (kS key) = false → ∃ v z, (∀ zd, Dm.atKey (kS key) zd = .held v) ∧ z.GoS wr T v ∧ Zb N a b key z
  old : ∀ key, key ∈ a.keys → ¬ (key ∈ b.keys ∧ left (kS key) = false) → ∀ zd, Dm.atKey (kS key) zd = (mapD a.keys xa).atKey (kS key) zd
theorem MJ.start {N : Nat} {a b : RV} {xa xb : List Value} {T : Nat → Prop} {wr : World} (hb : xb.length = b.keys.length) : MJ N a b xa xb T wr (mapD a.keys xa) (Maps.has (mapD b.keys xb)) :=
  ⟨fun k => by cases Maps.has (mapD a.keys xa) k <;> cases Maps.has (mapD b.keys xb) k <;> rfl, (fun key hk hl => by
    have := (has_mapD_key hb key).2 hk
    rw [this] at hl
    exact absurd hl (by decide)), fun key _ _ zd => rfl⟩
theorem MJ.kept {N : Nat} {a b : RV} {xa xb : List Value} {T : Nat → Prop} {wr w' : World} {Dm : DataW Value} {left : Lit → Bool} (h : MJ N a b xa xb T wr Dm left) (hs : SameOn T wr w') : MJ N a b xa xb T w' Dm left :=
  ⟨h.has, fun key hk hl => by
    obtain ⟨v, z, h1, h2, h3⟩ := h.new key hk hl
    exact ⟨v, z, h1, h2.keep hs (fun _ h _ => h), h3⟩, h.old⟩
theorem MJ.step {N : Nat} {a b : RV} {xa xb : List Value} {T : Nat → Prop} {wr : World} {Dm : DataW Value} {left : Lit → Bool} {key : ByteArray} {v : Value} {z : RV} (hb : xb.length = b.keys.length) (h : MJ N a b xa xb T wr Dm left) (hm : Maps.IsMap Dm) (hk : key ∈ b.keys) (hz : z.GoS wr T v) (hZ : Zb N a b key z) :
    MJ N a b xa xb T wr (Dm.put (kS key) (.held v)) (fun q => left q && !q.sameKey (kS key)) := by
  have hbk := (has_mapD_key hb key).2 hk
  refine ⟨fun k => ?_, fun key' hk' hl' => ?_, fun key' hk' hn zd => ?_⟩
  · by_cases e : k = kS key
    · subst e
      rw [Maps.has_put_same hm (kS_key key), hbk, WideAt.sameKey_self (kS_key key)]
      simp
    · rw [Maps.has_put_other e, h.has k, Maps.sameKey_ne e]
      simp
  · by_cases e : key' = key
    · subst e
      exact ⟨v, z, fun zd => Maps.atKey_put_same hm (kS_key key') _ _, hz, hZ⟩
    · have e2 : kS key' ≠ kS key := fun x => e (kS_inj x)
      simp only [Maps.sameKey_ne e2, Bool.not_false, Bool.and_true] at hl'
      obtain ⟨v', z', h1, h2, h3⟩ := h.new key' hk' hl'
      exact ⟨v', z', fun zd => by rw [Maps.atKey_put_other e2]; exact h1 zd, h2, h3⟩
  · by_cases e : key' = key
    · subst e
      exact absurd ⟨hk, by simp [WideAt.sameKey_self (kS_key key')]⟩ hn
    · have e2 : kS key' ≠ kS key := fun x => e (kS_inj x)
      simp only [Maps.sameKey_ne e2, Bool.not_false, Bool.and_true] at hn
      rw [Maps.atKey_put_other e2]
      exact h.old key' hk' hn zd
theorem mapD_list : ∀ es : List (Lit × DataW Value), es.Pairwise (fun p q => p.1.before q.1 = true) → (∀ p ∈ es, ∃ key x, p = (kS key, .held x)) → ∃ ks xs, DataW.map es = mapD ks xs ∧ KeysUp ks ∧ xs.length = ks.length
  | [], _, _ => ⟨[], [], rfl, fun i hi => absurd hi (by simp), rfl⟩
  | p :: es, hp, he => by
    obtain ⟨hp1, hp2⟩ := List.pairwise_cons.1 hp
    obtain ⟨ks, xs, e, hu, hl⟩ := mapD_list es hp2 fun q hq => he q (List.mem_cons_of_mem _ hq)
    obtain ⟨key, x, rfl⟩ := he p (by simp)
    unfold mapD at e
    injection e with e
    refine ⟨key :: ks, x :: xs, by unfold mapD; rw [e]; rfl, fun i hi => ?_, by simp [hl]⟩
    cases i with
    | zero =>
      have hi0 : 0 < ks.length := by simp at hi; omega
      have h1 := hp1 (kS ks[0], .held (xs[0]'(by omega))) (by rw [e]; refine List.mem_map.2 ⟨(ks[0], xs[0]'(by omega)), ?_, rfl⟩; rw [List.mem_iff_getElem]; exact ⟨0, by simp; omega, by simp⟩)
      have h2 : bytesBefore key.data.toList ks[0].data.toList = true := h1
      rw [before_eq] at h2
      show Op.bytesLess key.toList ks[0].toList = true
      rw [ByteArray.toList_eq, ByteArray.toList_eq]
      exact h2
    | succ i => exact hu i (by simpa using hi)
theorem keyOf_text {P : Program} {k : TypeId} (hk : P.underlying k = some .string) {key : Value} {kl : Lit} (h : keyOf P k key = some kl) : ∃ s, key = .string s ∧ kl = kS s ∧ s.size ≤ maxLen := by
  cases key <;> simp [keyOf, hk, mapKey] at h
  exact ⟨_, rfl, h.2.symm, h.1⟩
theorem heldR_inv {v : Value} {y : DataW Value × List MemPlace} (h : heldR v = some y) : y.1 = .held v := by
  unfold heldR at h
  injection h with h
  rw [← h]
/-- A map of texts, by its keys and its elements. -/
theorem mapD_of {w : World} {r n : Nat} {D : DataW Value} (h : w.ownsMap Tryz.prog 9 heldR r n D) : ∃ ks xs, D = mapD ks xs ∧ KeysUp ks ∧ xs.length = ks.length := by
  have hc := h.canon (string_keyed Tryz.underlying9)
  obtain ⟨es0, clock, _, F, _, hD⟩ := h
  obtain ⟨es, e, hp, _⟩ := hc
  rw [e]
  refine mapD_list es hp fun p hp => ?_
  rw [hD] at e
  injection e with e
  rw [← e] at hp
  obtain ⟨x, hx, rfl⟩ := List.mem_map.1 (mem_sorted.1 hp)
  obtain ⟨y, hy⟩ := F.reads x hx
  rw [WideElems.rg_of hy]
  obtain ⟨s, hs0, hs, hs1⟩ := keyOf_text Tryz.underlying9 (WideElems.rd_key hy)
  have hv : ∃ v, y.2 = .held v := by
    unfold WideElems.rd at hy
    simp only [Option.bind_eq_some_iff, Option.map_eq_some_iff] at hy
    obtain ⟨q1, _, d, hd, hyd⟩ := hy
    exact ⟨x.val, by rw [← hyd]; exact heldR_inv hd⟩
  obtain ⟨v, hv⟩ := hv
  exact ⟨s, v, Prod.ext hs hv⟩
/-- All laid in: the product. -/
theorem MJ.done {N : Nat} {a b : RV} {xa xb : List Value} {T : Nat → Prop} {wr : World} {r n : Nat} {Dm : DataW Value} {left : Lit → Bool} (ha : a.Good) (hxa : xa.length = a.keys.length) (hxb : xb.length = b.keys.length) (hga : RV.GoSV wr T xa a.vals) (h : MJ N a b xa xb T wr Dm left) (hl : ∀ k, left k = false)
    (hm : wr.ownsMap Tryz.prog 9 heldR r n Dm) {T' : Nat → Prop} (hT : ∀ k, T k → T' k) (hr : T' r) (hn : n ≤ 1000000) : ∃ c, MergeN (N + 1) a b c ∧ c.kd = 6 ∧ c.GoS wr T' (.iface 90 (.map (some r))) := by
  obtain ⟨ks, xs, rfl, hu, hlx⟩ := mapD_of hm
  have hmem : ∀ key, key ∈ ks ↔ key ∈ a.keys ∨ key ∈ b.keys := fun key => by
    rw [← has_mapD_key hlx, h.has, hl, ← has_mapD_key hxa, ← has_mapD_key hxb]
    simp
  have hel : ∀ i (hi : i < ks.length), ∃ z : RV, z.GoS wr T (xs[i]'(by omega)) ∧ (ks[i] ∈ b.keys → Zb N a b ks[i] z) ∧ (ks[i] ∉ b.keys → ∀ x, a.AtR ks[i] x → z = x) := fun i hi => by
    have hat := mapD_get ks xs hlx hu i hi (by omega) .nil
    by_cases hkb : ks[i] ∈ b.keys
    · obtain ⟨v, z, h1, h2, h3⟩ := h.new ks[i] hkb (hl _)
      have h1' := h1 .nil
      unfold kS at h1'
      rw [hat] at h1'
      injection h1' with h1'
      subst h1'
      exact ⟨z, h2, fun _ => h3, fun h => absurd hkb h⟩
    · have hka : ks[i] ∈ a.keys := ((hmem _).1 (List.getElem_mem hi)).resolve_right hkb
      obtain ⟨j, hj, hje⟩ := List.getElem_of_mem hka
      have h1 := h.old ks[i] hka (fun x => hkb x.1) .nil
      have h2 := mapD_get a.keys xa hxa ha.keys.1 j hj (by omega) .nil
      unfold kS at h1
      rw [hat, ← hje, h2] at h1
      injection h1 with h1
      have hjv : j < a.vals.length := by rw [← ha.keys.2.1]; exact hj
      refine ⟨a.vals[j], by rw [h1]; exact hga.get j hjv (by omega), fun h => absurd h hkb, fun _ x hx => RV.AtR.one ha ⟨j, hj, hjv, hje, rfl⟩ hx⟩
  have hP : ∀ i, i < ks.length → ∃ z : RV, ∀ (hi : i < ks.length) (hx : i < xs.length), z.GoS wr T xs[i] ∧ (ks[i] ∈ b.keys → Zb N a b ks[i] z) ∧ (ks[i] ∉ b.keys → ∀ x, a.AtR ks[i] x → z = x) := fun i hi => by
    obtain ⟨z, hz⟩ := hel i hi
    exact ⟨z, fun _ _ => hz⟩
  obtain ⟨zs, hzl, hz⟩ := list_choose ks.length _ hP
  refine ⟨.mk 6 0 ByteArray.empty [] ks zs, ⟨ks, zs, rfl, hu, hzl.symm, hmem, fun i hk hi => ⟨fun y hy => (hz i hi hk (by omega)).2.1 hy.mem y hy, (hz i hi hk (by omega)).2.2⟩⟩, rfl, ?_⟩
  unfold RV.GoS
  refine .inr (.inr (.inr (.inr (.inr (.inr ⟨rfl, r, n, xs, rfl, hr, hn, hm, hlx, ?_⟩)))))
  exact RV.GoSV.of zs xs (by omega) fun j hj hj' => (hz j hj (by omega) hj').1.keep (fun _ _ _ => rfl) (fun k h _ => hT k h)
end Go.Proofs.YtjpcdbopioblaaaGreatDoor
