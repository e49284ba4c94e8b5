/- Texts of this proof laid together by a program: TypeOf0, GoRep, EncTxt, MapPlain, MapGet, MergePlain, Same, Apart, SpecQuoted. -/
import Derived.Test.YtjpcdbopioblaaaGreatDoorMh3
import Derived.Test.YtjpcdbopioblaaaGreatDoorMh4
import Derived.Test.YtjpcdbopioblaaaGreatDoorMh6
import Derived.Deep.Light
import Derived.Maps.OwnOps
import Derived.Maps.Views
import Derived.Maps.OwnSet
import Derived.Laws.FloatArith
import Derived.Laws.EntriesVeiled
import Derived.Deep.OwnRows
import Derived.WideKeyElems
import Derived.Deep.QuietTactic
import Derived.BigQuiet
/- Small functions of the reference and of the thin package walked: Fit, zzFits1, zzFits2, Type. -/
namespace Go.Proofs.YtjpcdbopioblaaaGreatDoor
open Go.RowKit

/-- Fit answers, and what it answers yes to is good. -/
def FitPost (x : RV) (w : World) (e : Ending) (w' : World) : Prop :=
  ∃ b, e = .returned (.bool b) ∧ Below w.heap.size w w' ∧ (b = true → x.Good ∧ x.nodes ≤ 400 ∧ x.bytes ≤ 2000)

set_option maxHeartbeats 400000 in
theorem fit_any (x : RV) (v : Value) (w : World) (hT : Tabs w) (hr : x.Rep w v) : Calls Tryz.prog 25 #[v] w (FitPost x w) := by
  obtain ⟨k, h, t, l, ks, vs⟩ := x
  have hr0 := Lib.hid hr
  unfold RV.Rep at hr
  obtain ⟨al, cl, ak, ck, av, cv, rfl, hk, hh, ht, hll, hlk, hlv, hrl, hrk, hrv⟩ := hr
  clear hrl hrk hrv
  have HT := Lib.hid hT
  clear hT
  go_enter Tryz.func25, Tryz.ntmps25
  go_wp2_with fail
  refine (value_any w HT.out (w.heap.size + 1) (by omega) _ _ _ 0 0 0 false _ (Nat.le_refl _) (((Below.refl _ w).alloc (Nat.le_refl _) _).alloc (by simp) _) (by unfold Lk; exact (by simpa using heap_alloc_new (w.alloc _) _)) hr0.out (by omega) (by omega) (by omega) (by omega) (fun _ => by omega) (by omega) (by omega)).mono ?_
  rintro e w1 ⟨p', b', bad', rfl, hl, hg, p0, p1, b0, b1, hq⟩
  have HQ := Lib.hid hq
  have HB : Hid (Below w.heap.size w w1) := below_gb (((Below.refl _ w).alloc (Nat.le_refl _) _).alloc (by simp) _) hg (by simp; omega) (by omega)
  have k2 := hl.c2
  clear hq hl hg
  go_wp2_with fail
  go_ret
  refine ⟨_, rfl, HB.out, fun hb => ?_⟩
  have hb' : bad' = false := by simpa using hb
  obtain ⟨_, q1, q2, q3, q4, q5⟩ := HQ.out hb'
  exact ⟨q3, by omega, by omega⟩

/-- The keys of a value are looked at for their lengths alone. -/
theorem fits2_any (ks : List ByteArray) (a : Option Addr) (cap : Nat) (w : World) (hr : KeysAt w a 0 ks) (hk : ks.length ≤ reachN) :
    Calls Tryz.prog 38 #[.slice a ks.length cap] w fun e w' => (∃ b, e = .returned (.bool b)) ∧ w = w' := by
  have HR := Lib.hid hr
  clear hr
  unfold reachN at hk
  go_enter Tryz.func38, Tryz.ntmps38
  go_wp2_with fail
  · go_ret
    exact ⟨⟨_, rfl⟩, rfl⟩
  · go_loopg [4, 10] (ks.length) (fun gk s4 s10 wr => w = wr ∧ (∃ u : Value, s4 = u) ∧ ∃ i : Nat, s10 = .int .i64 i ∧ i ≤ ks.length ∧ gk = ks.length - i)
    case atStart => exact ⟨rfl, ⟨_, rfl⟩, 0, rfl, Nat.zero_le _, rfl⟩
    case round =>
      obtain ⟨rfl, ⟨u, rfl⟩, i, rfl, hi, rfl⟩ := hrel
      by_cases hlt : i < ks.length
      · obtain ⟨kb, ko, rfl, hks, g0⟩ := HR.out.get i hlt
        simp only [Nat.zero_add] at g0
        obtain ⟨key, hkey⟩ : ∃ key, ks[i] = key := ⟨_, rfl⟩
        rw [hkey] at g0 hks
        clear hkey
        unfold reachN at hks
        go_wp2_with fail
        · go_ret
          exact ⟨⟨_, rfl⟩, rfl⟩
        · go_roundg (ks.length - (i + 1))
          case measure => omega
          case rel => exact ⟨rfl, ⟨_, rfl⟩, i + 1, by go_num, by omega, rfl⟩
      · go_wp2_with fail
        go_ret
        exact ⟨⟨_, rfl⟩, rfl⟩

def BoolPost (w : World) (e : Ending) (w' : World) : Prop := (∃ b, e = .returned (.bool b)) ∧ Below w.heap.size w w'
set_option maxHeartbeats 400000 in
theorem fits1_any (x : RV) (v : Value) (w : World) (hr : x.Rep w v) : Calls Tryz.prog 12 #[v] w (BoolPost w) := by
  obtain ⟨k, h, t, l, ks, vs⟩ := x
  unfold RV.Rep at hr
  obtain ⟨al, cl, ak, ck, av, cv, rfl, hk, hh, ht, hll, hlk, hlv, hrl, hrk, hrv⟩ := hr
  have HC := Lib.hid (fits2_any ks ak ck _ (hrk.below ((Below.refl _ w).alloc (Nat.le_refl _) (.cells #[.int .i64 k, .int .i64 h, .string t, .slice al l.length cl, .slice ak ks.length ck, .slice av vs.length cv] 27))) hlk)
  clear hrl hrk hrv
  go_enter Tryz.func12, Tryz.ntmps12
  go_wp2_with (go_at_call 38; refine HC.out.mono ?_; rintro e w' ⟨⟨b, rfl⟩, rfl⟩)
  all_goals go_ret
  all_goals exact ⟨⟨_, rfl⟩, (Below.refl _ _).alloc (Nat.le_refl _) _⟩

/-- The name of a kind. -/
def typeName (k : Int) : ByteArray :=
  if k = 0 then ⟨#[110, 117, 108, 108]⟩ else if k = 1 ∨ k = 2 then ⟨#[98, 111, 111, 108, 101, 97, 110]⟩ else if k = 3 then ⟨#[110, 117, 109, 98, 101, 114]⟩ else
  if k = 5 then ⟨#[97, 114, 114, 97, 121]⟩ else if k = 6 then ⟨#[111, 98, 106, 101, 99, 116]⟩ else ⟨#[115, 116, 114, 105, 110, 103]⟩

set_option maxHeartbeats 400000 in
theorem type_any (x : RV) (v : Value) (w : World) (k h : Int) (t : ByteArray) (l : List RV) (ks : List ByteArray) (vs : List RV) (hx : x = .mk k h t l ks vs) (hr : x.Rep w v) :
    Calls Tryz.prog 28 #[v] w fun e w' => e = .returned (.string (typeName k)) ∧ Below w.heap.size w w' := by
  subst hx
  unfold RV.Rep at hr
  obtain ⟨al, cl, ak, ck, av, cv, rfl, hk, hh, ht, hll, hlk, hlv, hrl, hrk, hrv⟩ := hr
  clear hrl hrk hrv
  go_enter Tryz.func28, Tryz.ntmps28
  go_wp2_with fail
  all_goals go_ret
  all_goals refine ⟨?_, (Below.refl _ _).alloc (Nat.le_refl _) _⟩
  all_goals (go_light; simp_all [typeName])
end Go.Proofs.YtjpcdbopioblaaaGreatDoor

/- The program's own values: what it means that a tree lies in memory as the package gojq has it. -/
namespace Go.Proofs.YtjpcdbopioblaaaGreatDoor
open Go.RowKit

theorem RV.GoodL.append {l l' : List RV} : RV.GoodL (l ++ l') ↔ RV.GoodL l ∧ RV.GoodL l' := by
  induction l with
  | nil => simp [RV.GoodL]
  | cons x xs ih => simp only [List.cons_append, RV.GoodL, ih, and_assoc]
theorem RV.GoodL.get {l : List RV} (h : RV.GoodL l) : ∀ (i : Nat) (hi : i < l.length), l[i].Good := by
  induction l with
  | nil => intro i hi; simp at hi
  | cons x xs ih =>
    intro i hi
    cases i with
    | zero => exact h.1
    | succ i => exact ih h.2 i (by simpa using hi)

theorem RV.len_le : ∀ (l : List RV), l.length ≤ RV.nodesL l
  | [] => Nat.le_refl _
  | x :: xs => by have := RV.len_le xs; have := x.nodes_pos; simp only [List.length_cons, RV.nodesL]; omega

theorem bcell {W w1 : World} (hb : Below W.heap.size W w1) : (∀ b o, b < W.heap.size → w1.cell? ⟨b, o, none⟩ = W.cell? ⟨b, o, none⟩) ∧ (∀ b o, b < W.heap.size → w1.frozen? ⟨b, o, none⟩ = W.frozen? ⟨b, o, none⟩) :=
  ⟨fun b o h => hb.cell (p := ⟨b, o, none⟩) h, fun b o h => hb.frozen (p := ⟨b, o, none⟩) h⟩

/-- The cells of a value by their kinds. -/
theorem RV.Rep.shape {x : RV} {w : World} {c0 c1 c2 c3 c4 c5 : Value} (hr : x.Rep w (.agg #[c0, c1, c2, c3, c4, c5])) : ∃ k h t al nl cl ak nk ck av nv cv, c0 = .int .i64 k ∧ c1 = .int .i64 h ∧ c2 = .string t ∧ c3 = .slice al nl cl ∧ c4 = .slice ak nk ck ∧ c5 = .slice av nv cv := by
  obtain ⟨k, h, t, l, ks, vs⟩ := x
  unfold RV.Rep at hr
  obtain ⟨al, cl, ak, ck, av, cv, e, _⟩ := hr
  simp only [Value.agg.injEq, Array.mk.injEq, List.cons.injEq, and_true] at e
  obtain ⟨rfl, rfl, rfl, rfl, rfl, rfl⟩ := e
  exact ⟨_, _, _, _, _, _, _, _, _, _, _, _, rfl, rfl, rfl, rfl, rfl, rfl⟩

/-- A map's element read as itself. -/
def heldR (v : Value) : Option (DataW Value × List MemPlace) := some (.held v, [])
/-- A map by its keys, rising, and the values at them. -/
def mapD (ks : List ByteArray) (xs : List Value) : DataW Value := .map ((ks.zip xs).map fun p => (.string p.1.data.toList, .held p.2))

/-- The bits of a half. -/
def halfF (h : Int) : Nat := Ieee.double.write (.number (decide (h < 0)) h.natAbs (-1))
/-- A number as the program has it. -/
def numG (h : Int) : Value := if h.tmod 2 = 0 then .iface 3 (.int .i64 (h.tdiv 2)) else .iface 86 (.float .f64 (halfF h))

mutual
/-- The tree lies in the world from block 'base' on as a value of the program. -/
def RV.Go (w : World) (base : Nat) (x : Value) : RV → Prop
  | .mk k h t l ks vs =>
    (k = 0 ∧ x = .nilIface) ∨ (k = 1 ∧ x = .iface 4 (.bool false)) ∨ (k = 2 ∧ x = .iface 4 (.bool true)) ∨ (k = 3 ∧ x = numG h) ∨ (k = 4 ∧ x = .iface 9 (.string t)) ∨
    (k = 5 ∧ ∃ a cap, x = .iface 87 (.slice a l.length cap) ∧ RV.GoL w base a 0 l) ∨
    (k = 6 ∧ ∃ r n xs, x = .iface 90 (.map (some r)) ∧ base ≤ r ∧ n ≤ 1000000 ∧ w.ownsMap Tryz.prog 9 heldR r n (mapD ks xs) ∧ xs.length = ks.length ∧ RV.GoV w base xs vs)
def RV.GoL (w : World) (base : Nat) (a : Option Addr) (i : Nat) : List RV → Prop
  | [] => True
  | y :: ys => (∃ b o x, a = some ⟨b, o, none⟩ ∧ base ≤ b ∧ w.cell? ⟨b, o + i, none⟩ = some x ∧ RV.Go w base x y) ∧ RV.GoL w base a (i + 1) ys
def RV.GoV (w : World) (base : Nat) (xs : List Value) : List RV → Prop
  | [] => xs = []
  | y :: ys => ∃ x r, xs = x :: r ∧ RV.Go w base x y ∧ RV.GoV w base r ys
end

/-- Blocks from base on that were there are as they were. -/
def SameFrom (base : Nat) (w w' : World) : Prop := ∀ k, base ≤ k → k < w.heap.size → w'.heap[k]? = w.heap[k]?
theorem SameFrom.of_below {w w' : World} (h : Below w.heap.size w w') (base : Nat) : SameFrom base w w' := fun k _ hk => h.block k hk
theorem SameFrom.of_gb {w w' : World} {g base : Nat} (h : w.grownBy w' (some g)) (hg : g < base) : SameFrom base w w' := fun k hb hk => h.block k hk (fun e => by cases e; omega)
theorem SameFrom.cell {base : Nat} {w w' : World} (h : SameFrom base w w') {b o : Nat} {v : Value} (hb : base ≤ b) (hc : w.cell? ⟨b, o, none⟩ = some v) : w'.cell? ⟨b, o, none⟩ = some v :=
  (World.cell?_of_block (h b hb (cell_lt hc))).trans hc
theorem SameFrom.map {base : Nat} {w w' : World} (h : SameFrom base w w') {r n : Nat} {D : DataW Value} (hb : base ≤ r) (hm : w.ownsMap Tryz.prog 9 heldR r n D) : w'.ownsMap Tryz.prog 9 heldR r n D := by
  have hlt := hm.lt
  obtain ⟨es, clock, h1, h2⟩ := hm
  exact ⟨es, clock, (h r hb hlt).trans h1, h2⟩

mutual
theorem RV.Go.same {w w' : World} {base : Nat} (hs : SameFrom base w w') : ∀ {y : RV} {x : Value}, y.Go w base x → y.Go w' base x
  | .mk k h t l ks vs, x, hr => by
    unfold RV.Go at hr ⊢
    rcases hr with e | e | e | e | e | ⟨e, a, cap, hx, hl⟩ | ⟨e, r, n, xs, hx, hb, hn, hm, hxs, hv⟩
    · exact .inl e
    · exact .inr (.inl e)
    · exact .inr (.inr (.inl e))
    · exact .inr (.inr (.inr (.inl e)))
    · exact .inr (.inr (.inr (.inr (.inl e))))
    · exact .inr (.inr (.inr (.inr (.inr (.inl ⟨e, a, cap, hx, RV.GoL.same hs hl⟩)))))
    · exact .inr (.inr (.inr (.inr (.inr (.inr ⟨e, r, n, xs, hx, hb, hn, hs.map hb hm, hxs, RV.GoV.same hs hv⟩)))))
theorem RV.GoL.same {w w' : World} {base : Nat} (hs : SameFrom base w w') : ∀ {l : List RV} {a : Option Addr} {i : Nat}, RV.GoL w base a i l → RV.GoL w' base a i l
  | [], _, _, _ => by unfold RV.GoL; trivial
  | y :: ys, a, i, hr => by
    unfold RV.GoL at hr ⊢
    obtain ⟨⟨b, o, x, e, hb, hc, hy⟩, h2⟩ := hr
    exact ⟨⟨b, o, x, e, hb, hs.cell hb hc, RV.Go.same hs hy⟩, RV.GoL.same hs h2⟩
theorem RV.GoV.same {w w' : World} {base : Nat} (hs : SameFrom base w w') : ∀ {l : List RV} {xs : List Value}, RV.GoV w base xs l → RV.GoV w' base xs l
  | [], _, hr => by unfold RV.GoV at hr ⊢; exact hr
  | y :: ys, xs, hr => by
    unfold RV.GoV at hr ⊢
    obtain ⟨x, r, e, hy, h2⟩ := hr
    exact ⟨x, r, e, RV.Go.same hs hy, RV.GoV.same hs h2⟩
end
mutual
theorem RV.Go.mono {w : World} {base base' : Nat} (hb : base' ≤ base) : ∀ {y : RV} {x : Value}, y.Go w base x → y.Go w base' x
  | .mk k h t l ks vs, x, hr => by
    unfold RV.Go at hr ⊢
    rcases hr with e | e | e | e | e | ⟨e, a, cap, hx, hl⟩ | ⟨e, r, n, xs, hx, hb2, hn, hm, hxs, hv⟩
    · exact .inl e
    · exact .inr (.inl e)
    · exact .inr (.inr (.inl e))
    · exact .inr (.inr (.inr (.inl e)))
    · exact .inr (.inr (.inr (.inr (.inl e))))
    · exact .inr (.inr (.inr (.inr (.inr (.inl ⟨e, a, cap, hx, RV.GoL.mono hb hl⟩)))))
    · exact .inr (.inr (.inr (.inr (.inr (.inr ⟨e, r, n, xs, hx, Nat.le_trans hb hb2, hn, hm, hxs, RV.GoV.mono hb hv⟩)))))
theorem RV.GoL.mono {w : World} {base base' : Nat} (hb : base' ≤ base) : ∀ {l : List RV} {a : Option Addr} {i : Nat}, RV.GoL w base a i l → RV.GoL w base' a i l
  | [], _, _, _ => by unfold RV.GoL; trivial
  | y :: ys, a, i, hr => by
    unfold RV.GoL at hr ⊢
    obtain ⟨⟨b, o, x, e, hb2, hc, hy⟩, h2⟩ := hr
    exact ⟨⟨b, o, x, e, Nat.le_trans hb hb2, hc, RV.Go.mono hb hy⟩, RV.GoL.mono hb h2⟩
theorem RV.GoV.mono {w : World} {base base' : Nat} (hb : base' ≤ base) : ∀ {l : List RV} {xs : List Value}, RV.GoV w base xs l → RV.GoV w base' xs l
  | [], _, hr => by unfold RV.GoV at hr ⊢; exact hr
  | y :: ys, xs, hr => by
    unfold RV.GoV at hr ⊢
    obtain ⟨x, r, e, hy, h2⟩ := hr
    exact ⟨x, r, e, RV.Go.mono hb hy, RV.GoV.mono hb h2⟩
end

theorem numG_shape (h : Int) : ∃ t y, numG h = .iface t y := by unfold numG; split <;> exact ⟨_, _, rfl⟩
theorem RV.Go.shape {w : World} {base : Nat} {x : Value} {y : RV} (hr : y.Go w base x) : x = .nilIface ∨ ∃ t z, x = .iface t z := by
  obtain ⟨k, h, t, l, ks, vs⟩ := y
  unfold RV.Go at hr
  rcases hr with ⟨_, e⟩ | ⟨_, e⟩ | ⟨_, e⟩ | ⟨_, e⟩ | ⟨_, e⟩ | ⟨_, a, cap, e, _⟩ | ⟨_, r, n, xs, e, _⟩
  · exact .inl e
  · exact .inr ⟨_, _, e⟩
  · exact .inr ⟨_, _, e⟩
  · obtain ⟨t, z, hz⟩ := numG_shape h; exact .inr ⟨t, z, e.trans hz⟩
  · exact .inr ⟨_, _, e⟩
  · exact .inr ⟨_, _, e⟩
  · exact .inr ⟨_, _, e⟩

theorem RV.GoL.get {w : World} {base : Nat} {a : Option Addr} : ∀ {l : List RV} {i : Nat}, RV.GoL w base a i l → ∀ (j : Nat) (h : j < l.length), ∃ b o x, a = some ⟨b, o, none⟩ ∧ base ≤ b ∧ w.cell? ⟨b, o + (i + j), none⟩ = some x ∧ l[j].Go w base x
  | _ :: _, i, h, 0, _ => by unfold RV.GoL at h; simpa using h.1
  | _ :: xs, i, h, j + 1, hj => by
    unfold RV.GoL at h
    have := RV.GoL.get h.2 j (by simpa using hj)
    simpa [Nat.add_assoc, Nat.add_comm 1 j] using this
/-- A row of the call's own, filled place by place, is a list of the program. -/
theorem RV.GoL.of {w : World} {base : Nat} {b o : Nat} (hb : base ≤ b) : ∀ (l : List RV) (i : Nat), (∀ (j : Nat) (h : j < l.length), ∃ x, w.cell? ⟨b, o + (i + j), none⟩ = some x ∧ l[j].Go w base x) → RV.GoL w base (some ⟨b, o, none⟩) i l
  | [], _, _ => by unfold RV.GoL; trivial
  | y :: ys, i, h => by
    unfold RV.GoL
    obtain ⟨x, hc, hg⟩ := h 0 (by simp)
    refine ⟨⟨b, o, x, rfl, hb, by simpa using hc, by simpa using hg⟩, RV.GoL.of hb ys (i + 1) fun j hj => ?_⟩
    obtain ⟨x', hc', hg'⟩ := h (j + 1) (by simpa using hj)
    exact ⟨x', by simpa [Nat.add_assoc, Nat.add_comm 1 j] using hc', by simpa using hg'⟩
theorem RV.GoV.len {w : World} {base : Nat} : ∀ {l : List RV} {xs : List Value}, RV.GoV w base xs l → xs.length = l.length
  | [], _, hr => by unfold RV.GoV at hr; simp [hr]
  | _ :: ys, xs, hr => by
    unfold RV.GoV at hr
    obtain ⟨x, r, rfl, _, h2⟩ := hr
    simp [RV.GoV.len h2]
theorem RV.GoV.get {w : World} {base : Nat} : ∀ {l : List RV} {xs : List Value}, RV.GoV w base xs l → ∀ (j : Nat) (h : j < l.length) (h' : j < xs.length), l[j].Go w base xs[j]
  | _ :: _, _, hr, 0, _, _ => by
    unfold RV.GoV at hr
    obtain ⟨x, r, rfl, hg, _⟩ := hr
    simpa using hg
  | _ :: ys, _, hr, j + 1, h, h' => by
    unfold RV.GoV at hr
    obtain ⟨x, r, rfl, _, h2⟩ := hr
    simpa using RV.GoV.get h2 j (by simpa using h) (by simpa using h')
theorem RV.GoV.of {w : World} {base : Nat} : ∀ (l : List RV) (xs : List Value), xs.length = l.length → (∀ (j : Nat) (h : j < l.length) (h' : j < xs.length), l[j].Go w base xs[j]) → RV.GoV w base xs l
  | [], [], _, _ => by unfold RV.GoV; rfl
  | y :: ys, x :: r, hl, h => by
    unfold RV.GoV
    exact ⟨x, r, rfl, h 0 (by simp) (by simp), RV.GoV.of ys r (by simpa using hl) fun j hj hj' => h (j + 1) (by simpa using hj) (by simpa using hj')⟩
end Go.Proofs.YtjpcdbopioblaaaGreatDoor

/- The JSON text of a tree, as the encoder writes it: plain. -/
namespace Go.Proofs.YtjpcdbopioblaaaGreatDoor
open Go.RowKit

def numT (h : Int) : List UInt8 := if h.tmod 2 = 0 then intText (h.tdiv 2) else numBytes h
def strT (t : ByteArray) : List UInt8 := 34 :: t.data.toList.flatMap encB ++ [34]
mutual
def RV.txt : RV → List UInt8
  | .mk k h t l ks vs => if k = 0 then [110, 117, 108, 108] else if k = 1 then [102, 97, 108, 115, 101] else if k = 2 then [116, 114, 117, 101] else if k = 3 then numT h else if k = 4 then strT t else if k = 5 then 91 :: (RV.txtC l).drop 1 ++ [93] else 123 :: (RV.txtM ks vs).drop 1 ++ [125]
/-- The elements, a comma ahead of each. -/
def RV.txtC : List RV → List UInt8
  | [] => []
  | x :: xs => 44 :: x.txt ++ RV.txtC xs
/-- The members, a comma ahead of each. -/
def RV.txtM (ks : List ByteArray) : List RV → List UInt8
  | [] => []
  | x :: xs => 44 :: strT (ks.headD ByteArray.empty) ++ 58 :: x.txt ++ RV.txtM ks.tail xs
end
theorem txtC_append : ∀ (a b : List RV), RV.txtC (a ++ b) = RV.txtC a ++ RV.txtC b
  | [], b => by simp [RV.txtC]
  | x :: a, b => by simp [RV.txtC, txtC_append a b]
theorem txtC_ne {l : List RV} (h : l ≠ []) : RV.txtC l ≠ [] := by cases l with | nil => exact absurd rfl h | cons x l => simp [RV.txtC]
/-- One element more. -/
theorem txtC_take {l : List RV} {i : Nat} (h : i < l.length) : (RV.txtC (l.take (i + 1))).drop 1 = (RV.txtC (l.take i)).drop 1 ++ (if i = 0 then [] else [44]) ++ l[i].txt := by
  rw [List.take_succ_eq_append_getElem h, txtC_append]
  have e : RV.txtC [l[i]] = 44 :: l[i].txt := by simp [RV.txtC]
  rw [e]
  by_cases h0 : i = 0
  · subst h0
    simp [RV.txtC]
  · have hne : RV.txtC (l.take i) ≠ [] := txtC_ne (by intro h1; have := congrArg List.length h1; rw [List.length_take, List.length_nil] at this; omega)
    cases hc : RV.txtC (l.take i) with
    | nil => exact absurd hc hne
    | cons c r => simp [h0]
theorem strT_len (t : ByteArray) : (strT t).length ≤ 6 * t.size + 2 := by
  have h : ∀ l : List UInt8, (l.flatMap encB).length ≤ 6 * l.length := fun l => by
    induction l with
    | nil => simp
    | cons c l ih =>
      have h1 : (encB c).length ≤ 6 := by unfold encB; repeat' split
                                          all_goals simp
      rw [List.flatMap_cons, List.length_append, List.length_cons]; omega
  have := h t.data.toList
  have e : t.data.toList.length = t.size := Array.length_toList
  unfold strT
  simp only [List.length_append, List.length_cons, List.length_nil]
  omega
theorem numT_len {h : Int} (h1 : -18014398509481984 ≤ h) (h2 : h ≤ 18014398509481984) (h3 : h % 2 = 0 ∨ (-9007199254740992 < h ∧ h < 9007199254740992)) : (numT h).length ≤ 24 := by
  unfold numT
  split
  · rename_i h0
    have e := Int.mul_tdiv_add_tmod h 2
    have := intText_len (n := h.tdiv 2) (by omega) (by omega)
    omega
  · rename_i h0
    have hne : h % 2 ≠ 0 := fun e => h0 (Int.tmod_eq_zero_of_dvd (Int.dvd_of_emod_eq_zero e))
    refine numBytes_len h ?_ ?_ <;> omega
mutual
theorem txt_len : ∀ {x : RV}, x.Good → x.txt.length + 10 ≤ 40 * (x.nodes + x.bytes)
  | .mk k h t l ks vs, hg => by
    unfold RV.Good at hg
    obtain ⟨-, -, -, -, -, -, hkv, h1, h2, h3, -, hl, -, -, hv⟩ := hg
    have e1 := txtC_len hl
    have e2 := txtM_len hkv hv
    have e3 := numT_len h1 h2 h3
    have e4 := strT_len t
    unfold RV.txt RV.nodes RV.bytes
    repeat' split
    all_goals (try simp only [List.length_append, List.length_cons, List.length_nil, List.length_drop])
    all_goals omega
theorem txtC_len : ∀ {l : List RV}, RV.GoodL l → (RV.txtC l).length ≤ 40 * (RV.nodesL l + RV.bytesL l)
  | [], _ => by simp [RV.txtC]
  | x :: xs, hg => by
    unfold RV.GoodL at hg
    have e1 := txt_len hg.1
    have e2 := txtC_len hg.2
    unfold RV.txtC RV.nodesL RV.bytesL
    simp only [List.length_append, List.length_cons]
    omega
theorem txtM_len : ∀ {ks : List ByteArray} {vs : List RV}, ks.length = vs.length → RV.GoodL vs → (RV.txtM ks vs).length ≤ 40 * (RV.nodesL vs + RV.bytesL vs + keysSize ks)
  | _, [], _, _ => by simp [RV.txtM]
  | [], x :: xs, he, _ => by simp at he
  | k :: ks, x :: xs, he, hg => by
    unfold RV.GoodL at hg
    have e1 := txt_len hg.1
    have e2 := txtM_len (ks := ks) (vs := xs) (by simpa using he) hg.2
    have e3 := strT_len k
    unfold RV.txtM RV.nodesL RV.bytesL keysSize
    simp only [List.length_append, List.length_cons, List.headD_cons, List.tail_cons]
    omega
end
end Go.Proofs.YtjpcdbopioblaaaGreatDoor

/- Maps by their keys: plain laws, no walk. -/
namespace Go.Proofs.YtjpcdbopioblaaaGreatDoor
open Go.RowKit

theorem before_eq : ∀ (a b : List UInt8), bytesBefore a b = Op.bytesLess a b
  | [], [] => rfl
  | [], _ :: _ => rfl
  | _ :: _, [] => rfl
  | a :: r, b :: s => by simp only [bytesBefore, Op.bytesLess, before_eq r s]

theorem less_trans (a b c : List UInt8) (h1 : Op.bytesLess a b = true) (h2 : Op.bytesLess b c = true) : Op.bytesLess a c = true := by
  rw [← before_eq] at *; exact WideShapes.bytes_trans a b c h1 h2
theorem less_irrefl (a : List UInt8) : Op.bytesLess a a = false := by rw [← before_eq]; exact WideAt.bytes_irrefl a
theorem less_total (a b : List UInt8) (h : a ≠ b) : Op.bytesLess a b = true ∨ Op.bytesLess b a = true := by
  rw [← before_eq, ← before_eq]; exact WideAt.bytes_total a b h

theorem KeysUp.lt {ks : List ByteArray} (h : KeysUp ks) : ∀ (d i : Nat) (hj : i + d + 1 < ks.length), Op.bytesLess (ks[i]'(by omega)).toList ks[i + d + 1].toList = true
  | 0, i, hj => h i hj
  | d + 1, i, hj => less_trans _ _ _ (h.lt d i (by omega)) (h (i + d + 1) hj)
theorem KeysUp.lt' {ks : List ByteArray} (h : KeysUp ks) {i j : Nat} (hij : i < j) (hj : j < ks.length) : Op.bytesLess (ks[i]'(by omega)).toList ks[j].toList = true := by
  obtain ⟨d, rfl⟩ : ∃ d, j = i + d + 1 := ⟨j - i - 1, by omega⟩
  exact h.lt d i hj

theorem insert_last {H : Type} (x : Lit × DataW H) : ∀ (l : List (Lit × DataW H)), (∀ y ∈ l, x.1.before y.1 = false) → DataW.insert x l = l ++ [x]
  | [], _ => rfl
  | y :: r, h => by
    unfold DataW.insert
    rw [if_neg (by simp [h y (by simp)]), insert_last x r fun z hz => h z (by simp [hz])]
    rfl

/-- A key behind all others is put at the end. -/
theorem mapD_put (ks : List ByteArray) (xs : List Value) (key : ByteArray) (x : Value) (hl : xs.length = ks.length) (hk : ∀ y ∈ ks, Op.bytesLess y.toList key.toList = true) :
    (mapD ks xs).put (.string key.data.toList) (.held x) = mapD (ks ++ [key]) (xs ++ [x]) := by
  unfold mapD DataW.put
  simp only
  have hne : ∀ y ∈ ks, y.data.toList ≠ key.data.toList := by
    intro y hy e
    have := hk y hy
    rw [ByteArray.toList_eq, ByteArray.toList_eq, e, less_irrefl] at this
    cases this
  have hf : ((ks.zip xs).map fun p => ((Lit.string p.1.data.toList, DataW.held p.2) : Lit × DataW Value)).filter (fun p => !p.1.sameKey (.string key.data.toList)) = (ks.zip xs).map fun p => (Lit.string p.1.data.toList, DataW.held p.2) := by
    rw [List.filter_eq_self]
    intro p hp
    obtain ⟨q, hq, rfl⟩ := List.mem_map.1 hp
    have := hne q.1 (List.of_mem_zip hq).1
    simpa [Lit.sameKey] using this
  rw [hf, insert_last]
  · rw [List.zip_append hl.symm]
    simp
  · intro y hy
    obtain ⟨q, hq, rfl⟩ := List.mem_map.1 hy
    have h1 := hk q.1 (List.of_mem_zip hq).1
    rw [ByteArray.toList_eq, ByteArray.toList_eq] at h1
    simp only [Lit.before]
    rw [before_eq]
    cases h2 : Op.bytesLess key.data.toList q.1.data.toList
    · rfl
    · have := less_trans _ _ _ h1 h2
      rw [less_irrefl] at this
      cases this

theorem RV.GoV.snoc {w : World} {base : Nat} : ∀ {l : List RV} {xs : List Value} {y : RV} {x : Value}, RV.GoV w base xs l → y.Go w base x → RV.GoV w base (xs ++ [x]) (l ++ [y])
  | [], _, y, x, h, hy => by
    unfold RV.GoV at h
    subst h
    simp only [List.nil_append]
    unfold RV.GoV
    exact ⟨x, [], rfl, hy, by unfold RV.GoV; rfl⟩
  | z :: l, xs, y, x, h, hy => by
    unfold RV.GoV at h
    obtain ⟨u, r, rfl, hu, h2⟩ := h
    simp only [List.cons_append]
    unfold RV.GoV
    exact ⟨u, r ++ [x], rfl, hu, RV.GoV.snoc h2 hy⟩
end Go.Proofs.YtjpcdbopioblaaaGreatDoor

/- A map of the program's, read at a key of its own. -/
namespace Go.Proofs.YtjpcdbopioblaaaGreatDoor
open Go.RowKit Go.WideMaps Go.Maps Go.WideElems

theorem mapD_get (ks : List ByteArray) (xs : List Value) (hl : xs.length = ks.length) (hu : KeysUp ks) (i : Nat) (hi : i < ks.length) (hx : i < xs.length) (z : DataW Value) :
    (mapD ks xs).atKey (.string ks[i].data.toList) z = .held xs[i] := by
  unfold mapD
  refine WideAt.atKey_mem z trivial ?_ ?_
  · refine List.pairwise_iff_getElem.2 fun a b ha hb hab => ?_
    simp only [List.length_map, List.length_zip] at ha hb
    have ha' : a < ks.length := by omega
    have hb' : b < ks.length := by omega
    simp only [List.getElem_map, List.getElem_zip]
    intro e
    have hlt := hu.lt' hab hb'
    have e2 : ks[a].data.toList = ks[b].data.toList := by injection e
    rw [ByteArray.toList_eq, ByteArray.toList_eq, e2, less_irrefl] at hlt
    cases hlt
  · refine List.mem_map.2 ⟨(ks[i], xs[i]), ?_, rfl⟩
    rw [List.mem_iff_getElem]
    exact ⟨i, by simp; omega, by simp⟩

theorem size_mapD (ks : List ByteArray) (xs : List Value) (hl : xs.length = ks.length) : Maps.size (mapD ks xs) = ks.length := by
  unfold mapD Maps.size
  simp [hl]

set_option maxRecDepth 100000 in
theorem lookup_run (w : World) (r n : Nat) (ks : List ByteArray) (xs : List Value) (hm : w.ownsMap Tryz.prog 9 heldR r n (mapD ks xs)) (hl : xs.length = ks.length) (hu : KeysUp ks) (i : Nat) (hi : i < ks.length) (hx : i < xs.length) (hs : ks[i].size ≤ maxLen) :
    (Instr.lookup 90 (.map (some r)) (.string ks[i]) false).run Tryz.prog w = .ok xs[i] w := by
  have hg := mapD_get ks xs hl hu i hi hx .nil
  obtain ⟨es, clock, hb, F, hn, hD⟩ := hm
  have zero : (zeroValue 20).run Tryz.prog w = .ok .nilIface w := by kernel_rfl
  rw [hD] at hg
  rcases fit_lookup (w := w) (string_law Tryz.underlying9) Tryz.underlying90 zero hb F (keyOf_string_mk (s := ks[i]) Tryz.underlying9 hs) with ⟨_, hat⟩ | ⟨v, y, hrun, hR, hat, _⟩
  · rw [hat] at hg; cases hg
  · rw [hat] at hg
    unfold heldR at hR
    injection hR with hR
    subst hR
    injection hg with hg
    subst hg
    exact hrun
end Go.Proofs.YtjpcdbopioblaaaGreatDoor

/- Products of objects, plainly: what the merged tree is, that it is one tree, how great it is. No walk. -/
namespace Go.Proofs.YtjpcdbopioblaaaGreatDoor
open Go.RowKit

def RV.kd : RV → Int | .mk k _ _ _ _ _ => k
def RV.keys : RV → List ByteArray | .mk _ _ _ _ ks _ => ks
def RV.vals : RV → List RV | .mk _ _ _ _ _ vs => vs
/-- At this key the map has this value. -/
def RV.AtR (t : RV) (key : ByteArray) (y : RV) : Prop := ∃ i, ∃ (h : i < t.keys.length) (h' : i < t.vals.length), t.keys[i] = key ∧ t.vals[i] = y
/-- The product of two maps. -/
def MergeN : Nat → RV → RV → RV → Prop
  | 0, _, _, _ => False
  | n + 1, a, b, c => ∃ ks zs, c = .mk 6 0 ByteArray.empty [] ks zs ∧ KeysUp ks ∧ ks.length = zs.length ∧ (∀ key, key ∈ ks ↔ key ∈ a.keys ∨ key ∈ b.keys) ∧
      ∀ i, ∀ (h : i < ks.length) (h' : i < zs.length),
        (∀ y, b.AtR ks[i] y → (∀ x, a.AtR ks[i] x → (x.kd = 6 ∧ y.kd = 6 → MergeN n x y zs[i]) ∧ (¬ (x.kd = 6 ∧ y.kd = 6) → zs[i] = y)) ∧ (ks[i] ∉ a.keys → zs[i] = y)) ∧
        (ks[i] ∉ b.keys → ∀ x, a.AtR ks[i] x → zs[i] = x)

theorem KeysUp.ne {ks : List ByteArray} (h : KeysUp ks) {i j : Nat} (hi : i < ks.length) (hj : j < ks.length) (hij : i < j) : ks[i] ≠ ks[j] := fun e => by
  have := h.lt' hij hj
  rw [e, less_irrefl] at this
  cases this
theorem KeysUp.nodup {ks : List ByteArray} (h : KeysUp ks) : ks.Nodup := by
  unfold List.Nodup
  exact List.pairwise_iff_getElem.2 fun i j hi hj hij => h.ne hi hj hij
theorem KeysUp.pairwise {ks : List ByteArray} (h : KeysUp ks) : ks.Pairwise (fun a b => Op.bytesLess a.toList b.toList = true) :=
  List.pairwise_iff_getElem.2 fun _ _ _ hj hij => h.lt' hij hj
theorem keys_ext : ∀ {ks ks' : List ByteArray}, ks.Pairwise (fun a b => Op.bytesLess a.toList b.toList = true) → ks'.Pairwise (fun a b => Op.bytesLess a.toList b.toList = true) → (∀ k, k ∈ ks ↔ k ∈ ks') → ks = ks'
  | [], [], _, _, _ => rfl
  | [], b :: r, _, _, h => by have := (h b).2 (by simp); simp at this
  | a :: l, [], _, _, h => by have := (h a).1 (by simp); simp at this
  | a :: l, b :: r, hp, hq, h => by
    have hp' := List.pairwise_cons.1 hp
    have hq' := List.pairwise_cons.1 hq
    have e : a = b := by
      have h1 := (h a).1 (by simp)
      have h2 := (h b).2 (by simp)
      rcases List.mem_cons.1 h1 with h1 | h1
      · exact h1
      · rcases List.mem_cons.1 h2 with h2 | h2
        · exact h2.symm
        · have h3 := less_trans _ _ _ (hq'.1 a h1) (hp'.1 b h2)
          rw [less_irrefl] at h3
          cases h3
    subst e
    rw [keys_ext hp'.2 hq'.2 fun k => ?_]
    constructor
    · intro hk
      rcases List.mem_cons.1 ((h k).1 (List.mem_cons_of_mem _ hk)) with h1 | h1
      · subst h1
        have := hp'.1 k hk
        rw [less_irrefl] at this
        cases this
      · exact h1
    · intro hk
      rcases List.mem_cons.1 ((h k).2 (List.mem_cons_of_mem _ hk)) with h1 | h1
      · subst h1
        have := hq'.1 k hk
        rw [less_irrefl] at this
        cases this
      · exact h1
theorem RV.Good.keys {t : RV} (h : t.Good) : KeysUp t.keys ∧ t.keys.length = t.vals.length ∧ RV.GoodL t.vals ∧ ∀ k ∈ t.keys, Lib.validD k.data.toList = true := by
  obtain ⟨k, h', s, l, ks, vs⟩ := t
  unfold RV.Good at h
  exact ⟨h.2.2.2.2.2.2.2.2.2.2.2.2.2.1, h.2.2.2.2.2.2.1, h.2.2.2.2.2.2.2.2.2.2.2.2.2.2, h.2.2.2.2.2.2.2.2.2.2.2.2.1⟩
theorem RV.AtR.mem {t : RV} {key : ByteArray} {y : RV} (h : t.AtR key y) : key ∈ t.keys := by
  obtain ⟨i, h1, _, rfl, _⟩ := h
  exact List.getElem_mem h1
theorem RV.AtR.of_mem {t : RV} (hg : t.Good) {key : ByteArray} (h : key ∈ t.keys) : ∃ y, t.AtR key y := by
  obtain ⟨i, h1, rfl⟩ := List.getElem_of_mem h
  exact ⟨t.vals[i]'(by rw [← hg.keys.2.1]; exact h1), i, h1, by rw [← hg.keys.2.1]; exact h1, rfl, rfl⟩
theorem RV.AtR.one {t : RV} (hg : t.Good) {key : ByteArray} {y y' : RV} (h : t.AtR key y) (h' : t.AtR key y') : y = y' := by
  obtain ⟨i, h1, h2, rfl, rfl⟩ := h
  obtain ⟨j, h3, h4, e, rfl⟩ := h'
  have : i = j := by
    rcases Nat.lt_trichotomy i j with hh | hh | hh
    · exact absurd e.symm (hg.keys.1.ne h1 h3 hh)
    · exact hh
    · exact absurd e (hg.keys.1.ne h3 h1 hh)
  subst this
  rfl
theorem RV.AtR.good {t : RV} (hg : t.Good) {key : ByteArray} {y : RV} (h : t.AtR key y) : y.Good := by
  obtain ⟨i, _, h2, _, rfl⟩ := h
  exact hg.keys.2.2.1.get i h2
/-- It is one tree. -/
theorem MergeN.det : ∀ {n m : Nat} {a b c c' : RV}, a.Good → b.Good → MergeN n a b c → MergeN m a b c' → c = c'
  | 0, _, _, _, _, _, _, _, h, _ => h.elim
  | _ + 1, 0, _, _, _, _, _, _, _, h => h.elim
  | n + 1, m + 1, a, b, c, c', ha, hb, h, h' => by
    obtain ⟨ks, zs, rfl, hu, hl, hm, hv⟩ := h
    obtain ⟨ks', zs', rfl, hu', hl', hm', hv'⟩ := h'
    have e := keys_ext hu.pairwise hu'.pairwise fun k => (hm k).trans (hm' k).symm
    subst e
    have ez : zs = zs' := by
      refine List.ext_getElem (by omega) fun i hi hi' => ?_
      have hk : i < ks.length := by omega
      obtain ⟨h1, h2⟩ := hv i hk hi
      obtain ⟨h1', h2'⟩ := hv' i hk hi'
      by_cases hkb : ks[i] ∈ b.keys
      · obtain ⟨y, hy⟩ := RV.AtR.of_mem hb hkb
        by_cases hka : ks[i] ∈ a.keys
        · obtain ⟨x, hx⟩ := RV.AtR.of_mem ha hka
          obtain ⟨g1, g2⟩ := (h1 y hy).1 x hx
          obtain ⟨g1', g2'⟩ := (h1' y hy).1 x hx
          by_cases hc : x.kd = 6 ∧ y.kd = 6
          · exact MergeN.det (hx.good ha) (hy.good hb) (g1 hc) (g1' hc)
          · rw [g2 hc, g2' hc]
        · rw [(h1 y hy).2 hka, (h1' y hy).2 hka]
      · have hka : ks[i] ∈ a.keys := ((hm _).1 (List.getElem_mem hk)).resolve_right hkb
        obtain ⟨x, hx⟩ := RV.AtR.of_mem ha hka
        rw [h2 hkb x hx, h2' hkb x hx]
    rw [ez]

theorem sum_zero : ∀ {l : List Nat}, (∀ n ∈ l, n = 0) → l.sum = 0
  | [], _ => rfl
  | x :: l, h => by rw [List.sum_cons, h x (by simp), sum_zero fun n hn => h n (List.mem_cons_of_mem _ hn)]
theorem le_sum : ∀ {l : List Nat} {x : Nat}, x ∈ l → x ≤ l.sum
  | y :: l, x, h => by
    rw [List.sum_cons]
    rcases List.mem_cons.1 h with rfl | h
    · omega
    · have := le_sum h; omega
theorem goodL_of : ∀ {l : List RV}, (∀ i (h : i < l.length), l[i].Good) → RV.GoodL l
  | [], _ => by unfold RV.GoodL; trivial
  | x :: l, h => by
    unfold RV.GoodL
    exact ⟨h 0 (by simp), goodL_of fun i hi => h (i + 1) (by simpa using hi)⟩
section
open Classical
/-- Weights of the pairs at a key. -/
noncomputable def atW (L : List (ByteArray × RV)) (f : ByteArray × RV → Nat) (k : ByteArray) : Nat := ((L.filter (fun p => p.1 = k)).map f).sum
theorem one_key (c : Nat) (x : ByteArray) : ∀ ks : List ByteArray, ks.Nodup → (ks.map fun k => if x = k then c else 0).sum ≤ c
  | [], _ => Nat.zero_le _
  | k :: ks, h => by
    obtain ⟨h1, h2⟩ := List.nodup_cons.1 h
    have ih := one_key c x ks h2
    simp only [List.map_cons, List.sum_cons]
    by_cases hx : x = k
    · subst hx
      have : (ks.map fun k => if x = k then c else 0).sum = 0 := by
        refine sum_zero ?_
        intro n hn
        obtain ⟨k, hk, rfl⟩ := List.mem_map.1 hn
        rw [if_neg (fun e : x = k => h1 (by rw [e]; exact hk))]
      rw [this, if_pos rfl, Nat.add_zero]
      exact Nat.le_refl _
    · rw [if_neg hx, Nat.zero_add]
      exact ih
theorem sum_cover (ks : List ByteArray) (hn : ks.Nodup) (f : ByteArray × RV → Nat) : ∀ L : List (ByteArray × RV), (ks.map (atW L f)).sum ≤ (L.map f).sum
  | [] => by
    have : (ks.map (atW [] f)).sum = 0 := by
      refine sum_zero ?_
      intro n h
      obtain ⟨k, _, rfl⟩ := List.mem_map.1 h
      rfl
    rw [this]; exact Nat.zero_le _
  | p :: L => by
    have ih := sum_cover ks hn f L
    have h1 := one_key (f p) p.1 ks hn
    have e : ∀ k, atW (p :: L) f k = (if p.1 = k then f p else 0) + atW L f k := fun k => by
      unfold atW
      rw [List.filter_cons]
      by_cases hk : p.1 = k
      · simp [hk]
      · simp [hk]
    have e2 : (ks.map (atW (p :: L) f)).sum = (ks.map fun k => if p.1 = k then f p else 0).sum + (ks.map (atW L f)).sum := by
      rw [List.map_congr_left (fun k _ => e k)]
      clear ih h1 hn
      induction ks with
      | nil => rfl
      | cons k ks ih => simp only [List.map_cons, List.sum_cons, ih]; omega
    rw [e2, List.map_cons, List.sum_cons]
    omega
theorem atW_ge {L : List (ByteArray × RV)} {f : ByteArray × RV → Nat} {p : ByteArray × RV} (h : p ∈ L) : f p ≤ atW L f p.1 := by
  unfold atW
  have h1 : f p ∈ ((L.filter (fun q => q.1 = p.1)).map f) := List.mem_map.2 ⟨p, List.mem_filter.2 ⟨h, by simp⟩, rfl⟩
  exact le_sum h1
theorem zip_nodes : ∀ (ks : List ByteArray) (vs : List RV), ks.length = vs.length → ((ks.zip vs).map fun p => p.2.nodes).sum = RV.nodesL vs
  | [], [], _ => rfl
  | k :: ks, v :: vs, h => by
    simp only [List.zip_cons_cons, List.map_cons, List.sum_cons, RV.nodesL]
    rw [zip_nodes ks vs (by simpa using h)]
theorem zip_bytes : ∀ (ks : List ByteArray) (vs : List RV), ks.length = vs.length → ((ks.zip vs).map fun p => p.1.size + p.2.bytes).sum = keysSize ks + RV.bytesL vs
  | [], [], _ => rfl
  | k :: ks, v :: vs, h => by
    simp only [List.zip_cons_cons, List.map_cons, List.sum_cons, RV.bytesL, keysSize]
    rw [zip_bytes ks vs (by simpa using h)]
    omega
theorem zip_le (f : ByteArray × RV → Nat) (F : ByteArray → Nat) : ∀ (ks : List ByteArray) (zs : List RV), ks.length = zs.length → (∀ i (h : i < ks.length) (h' : i < zs.length), f (ks[i], zs[i]) ≤ F ks[i]) → ((ks.zip zs).map f).sum ≤ (ks.map F).sum
  | [], [], _, _ => Nat.le_refl _
  | k :: ks, z :: zs, h, hf => by
    simp only [List.zip_cons_cons, List.map_cons, List.sum_cons]
    have h0 := hf 0 (by simp) (by simp)
    have ih := zip_le f F ks zs (by simpa using h) fun i h1 h2 => hf (i + 1) (by simpa using h1) (by simpa using h2)
    simp only [List.getElem_cons_zero] at h0
    omega
theorem map_add (F G : ByteArray → Nat) : ∀ ks : List ByteArray, (ks.map fun k => F k + G k).sum = (ks.map F).sum + (ks.map G).sum
  | [] => rfl
  | k :: ks => by simp only [List.map_cons, List.sum_cons, map_add F G ks]; omega
theorem RV.AtR.zip {t : RV} {key : ByteArray} {y : RV} (h : t.AtR key y) : (key, y) ∈ t.keys.zip t.vals := by
  obtain ⟨i, h1, h2, rfl, rfl⟩ := h
  rw [List.mem_iff_getElem]
  exact ⟨i, by simp; omega, by simp⟩
theorem RV.nodes_map (t : RV) : 1 + RV.nodesL t.vals ≤ t.nodes := by
  obtain ⟨k, h, s, l, ks, vs⟩ := t
  show 1 + RV.nodesL vs ≤ _
  unfold RV.nodes
  omega
theorem RV.bytes_map (t : RV) : keysSize t.keys + RV.bytesL t.vals ≤ t.bytes := by
  obtain ⟨k, h, s, l, ks, vs⟩ := t
  show keysSize ks + RV.bytesL vs ≤ _
  unfold RV.bytes
  omega
/-- A right value, no greater than both. -/
theorem MergeN.right : ∀ {n : Nat} {a b c : RV}, a.Good → b.Good → MergeN n a b c → c.Good ∧ c.nodes ≤ a.nodes + b.nodes ∧ c.bytes ≤ a.bytes + b.bytes
  | 0, _, _, _, _, _, h => h.elim
  | n + 1, a, b, c, ha, hb, h => by
    obtain ⟨ks, zs, rfl, hu, hl, hm, hv⟩ := h
    have key : ∀ i (h : i < ks.length) (h' : i < zs.length), zs[i].Good ∧ zs[i].nodes ≤ atW (a.keys.zip a.vals) (fun p => p.2.nodes) ks[i] + atW (b.keys.zip b.vals) (fun p => p.2.nodes) ks[i] ∧
        ks[i].size + zs[i].bytes ≤ atW (a.keys.zip a.vals) (fun p => p.1.size + p.2.bytes) ks[i] + atW (b.keys.zip b.vals) (fun p => p.1.size + p.2.bytes) ks[i] := fun i hk hi => by
      obtain ⟨h1, h2⟩ := hv i hk hi
      by_cases hkb : ks[i] ∈ b.keys
      · obtain ⟨y, hy⟩ := RV.AtR.of_mem hb hkb
        have y1 := atW_ge (f := fun p => p.2.nodes) hy.zip
        have y2 := atW_ge (f := fun p => p.1.size + p.2.bytes) hy.zip
        simp only at y1 y2
        by_cases hka : ks[i] ∈ a.keys
        · obtain ⟨x, hx⟩ := RV.AtR.of_mem ha hka
          have x1 := atW_ge (f := fun p => p.2.nodes) hx.zip
          have x2 := atW_ge (f := fun p => p.1.size + p.2.bytes) hx.zip
          simp only at x1 x2
          obtain ⟨g1, g2⟩ := (h1 y hy).1 x hx
          by_cases hc : x.kd = 6 ∧ y.kd = 6
          · obtain ⟨r1, r2, r3⟩ := MergeN.right (hx.good ha) (hy.good hb) (g1 hc)
            exact ⟨r1, by omega, by omega⟩
          · rw [g2 hc]
            exact ⟨hy.good hb, by omega, by omega⟩
        · rw [(h1 y hy).2 hka]
          exact ⟨hy.good hb, by omega, by omega⟩
      · have hka : ks[i] ∈ a.keys := ((hm _).1 (List.getElem_mem hk)).resolve_right hkb
        obtain ⟨x, hx⟩ := RV.AtR.of_mem ha hka
        have x1 := atW_ge (f := fun p => p.2.nodes) hx.zip
        have x2 := atW_ge (f := fun p => p.1.size + p.2.bytes) hx.zip
        simp only at x1 x2
        rw [h2 hkb x hx]
        exact ⟨hx.good ha, by omega, by omega⟩
    have hz : RV.GoodL zs := goodL_of fun i hi => (key i (by omega) hi).1
    refine ⟨?_, ?_, ?_⟩
    · unfold RV.Good
      refine ⟨by decide, by decide, .inr rfl, .inr rfl, .inr rfl, .inl rfl, hl, by decide, by decide, .inl rfl, by decide, by unfold RV.GoodL; trivial, ?_, hu, hz⟩
      intro k hk
      rcases (hm k).1 hk with h | h
      · exact ha.keys.2.2.2 k h
      · exact hb.keys.2.2.2 k h
    · have s1 := zip_le (fun p => p.2.nodes) (fun k => atW (a.keys.zip a.vals) (fun p => p.2.nodes) k + atW (b.keys.zip b.vals) (fun p => p.2.nodes) k) ks zs hl fun i h h' => (key i h h').2.1
      rw [zip_nodes ks zs hl, map_add] at s1
      have s2 := sum_cover ks hu.nodup (fun p => p.2.nodes) (a.keys.zip a.vals)
      have s3 := sum_cover ks hu.nodup (fun p => p.2.nodes) (b.keys.zip b.vals)
      rw [zip_nodes _ _ ha.keys.2.1] at s2
      rw [zip_nodes _ _ hb.keys.2.1] at s3
      have := a.nodes_map
      have := b.nodes_map
      have e1 : (RV.mk 6 0 ByteArray.empty [] ks zs).nodes = 1 + RV.nodesL [] + RV.nodesL zs := by rw [RV.nodes]
      have e2 : RV.nodesL [] = 0 := by rw [RV.nodesL]
      rw [e1, e2]
      omega
    · have s1 := zip_le (fun p => p.1.size + p.2.bytes) (fun k => atW (a.keys.zip a.vals) (fun p => p.1.size + p.2.bytes) k + atW (b.keys.zip b.vals) (fun p => p.1.size + p.2.bytes) k) ks zs hl fun i h h' => (key i h h').2.2
      rw [zip_bytes ks zs hl, map_add] at s1
      have s2 := sum_cover ks hu.nodup (fun p => p.1.size + p.2.bytes) (a.keys.zip a.vals)
      have s3 := sum_cover ks hu.nodup (fun p => p.1.size + p.2.bytes) (b.keys.zip b.vals)
      rw [zip_bytes _ _ ha.keys.2.1] at s2
      rw [zip_bytes _ _ hb.keys.2.1] at s3
      have := a.bytes_map
      have := b.bytes_map
      have e0 : ByteArray.empty.size = 0 := rfl
      have e1 : (RV.mk 6 0 ByteArray.empty [] ks zs).bytes = ByteArray.empty.size + RV.bytesL [] + keysSize ks + RV.bytesL zs := by rw [RV.bytes]
      have e2 : RV.bytesL [] = 0 := by rw [RV.bytesL]
      rw [e1, e2, e0]
      omega
end
end Go.Proofs.YtjpcdbopioblaaaGreatDoor

/- The reference's order walked: it says 0 of good values exactly if they are equal. -/
namespace Go.Proofs.YtjpcdbopioblaaaGreatDoor
open Go.RowKit

def signOf (n : Int) : Int := if n < 0 then -1 else if 0 < n then 1 else 0
theorem signOf_range (n : Int) : -1 ≤ signOf n ∧ signOf n ≤ 1 ∧ (signOf n = 0 ↔ n = 0) := by unfold signOf; split <;> (try split) <;> omega

set_option maxRecDepth 100000 in
theorem sign_any (n : Int) (w : World) : Calls Tryz.prog 79 #[.int .i64 n] w fun e w' => e = .returned (.int .i64 (signOf n)) ∧ w' = w := by
  by_cases h1 : n < 0
  · have hs : signOf n = -1 := if_pos h1
    go_enter Tryz.func79, Tryz.ntmps79
    go_wp2_with fail
    go_ret
    first | exact ⟨rfl, rfl⟩ | exact ⟨by rw [hs]; rfl, rfl⟩
  · by_cases h2 : 0 < n
    · have hs : signOf n = 1 := by unfold signOf; rw [if_neg h1, if_pos h2]
      go_enter Tryz.func79, Tryz.ntmps79
      go_wp2_with fail
      go_ret
      first | exact ⟨rfl, rfl⟩ | exact ⟨by rw [hs]; rfl, rfl⟩
    · have hs : signOf n = 0 := by unfold signOf; rw [if_neg h1, if_neg h2]
      go_enter Tryz.func79, Tryz.ntmps79
      go_wp2_with fail
      go_ret
      first | exact ⟨rfl, rfl⟩ | exact ⟨by rw [hs]; rfl, rfl⟩

theorem ba_ext {a b : ByteArray} (h : a.toList = b.toList) : a = b := by
  rw [ByteArray.toList_eq, ByteArray.toList_eq] at h
  exact ByteArray.ext (Array.toList_inj.1 h)

set_option maxRecDepth 100000 in
theorem texts_any (a b : ByteArray) (w : World) : Calls Tryz.prog 80 #[.string a, .string b] w fun e w' => (∃ c : Int, e = .returned (.int .i64 c) ∧ -1 ≤ c ∧ c ≤ 1 ∧ (c = 0 ↔ a = b)) ∧ w' = w := by
  by_cases h1 : Op.bytesLess a.toList b.toList = true
  · have hne : a ≠ b := by
      rintro rfl
      rw [ByteArray.toList_eq, less_irrefl] at h1
      cases h1
    go_enter Tryz.func80, Tryz.ntmps80
    go_wp2_with fail
    go_ret
    exact ⟨⟨-1, rfl, by omega, by omega, ⟨fun e => by omega, fun e => absurd e hne⟩⟩, rfl⟩
  · have h1' : Op.bytesLess a.toList b.toList = false := by simpa using h1
    by_cases h2 : a = b
    · subst h2
      have h2' : (a.toList == a.toList) = true := by simp
      go_enter Tryz.func80, Tryz.ntmps80
      go_wp2_with fail
      go_ret
      exact ⟨⟨0, rfl, by omega, by omega, by simp⟩, rfl⟩
    · have h2' : (a.toList == b.toList) = false := by
        rw [Bool.eq_false_iff]
        intro e
        exact h2 (ba_ext (by simpa using e))
      go_enter Tryz.func80, Tryz.ntmps80
      go_wp2_with fail
      go_ret
      exact ⟨⟨1, rfl, by omega, by omega, ⟨fun e => by omega, fun e => absurd e h2⟩⟩, rfl⟩

theorem take_eq_end {α : Type} {a b : List α} {i : Nat} (h : a.take i = b.take i) (hi : i ≤ a.length ∧ i ≤ b.length) (he : ¬ (i < a.length ∧ i < b.length)) : ((a.length : Int) - (b.length : Int) = 0 ↔ a = b) := by
  constructor
  · intro e
    have e1 : a.length = i := by omega
    have e2 : b.length = i := by omega
    rw [← List.take_length (l := a), ← List.take_length (l := b), e1, e2, h]
  · rintro rfl; omega
theorem take_succ_eq {α : Type} {a b : List α} {i : Nat} (h : a.take i = b.take i) (h1 : i < a.length) (h2 : i < b.length) (e : a[i] = b[i]) : a.take (i + 1) = b.take (i + 1) := by
  rw [← List.take_append_getElem h1, ← List.take_append_getElem h2, h, e]

set_option maxRecDepth 100000 in
set_option maxHeartbeats 1600000 in
theorem keys_any (a b : Option Addr) (ca cb : Nat) (l l' : List ByteArray) (w : World) (hl : l.length ≤ reachN) (hl' : l'.length ≤ reachN) (h1 : KeysAt w a 0 l) (h2 : KeysAt w b 0 l') :
    Calls Tryz.prog 82 #[.slice a l.length ca, .slice b l'.length cb] w fun e w' => (∃ c : Int, e = .returned (.int .i64 c) ∧ -reachN ≤ c ∧ c ≤ reachN ∧ (c = 0 ↔ l = l')) ∧ Below w.heap.size w w' := by
  have H1 := Lib.hid h1
  have H2 := Lib.hid h2
  clear h1 h2
  unfold reachN at hl hl' ⊢
  go_enter Tryz.func82, Tryz.ntmps82
  go_wp2_with fail
  go_loopg [5] (l.length) (fun gk s5 wr => ∃ i : Nat, s5 = .int .i64 i ∧ i ≤ l.length ∧ i ≤ l'.length ∧ gk = l.length - i ∧ Hid (l.take i = l'.take i ∧ Below w.heap.size w wr))
  case atStart => exact ⟨0, rfl, Nat.zero_le _, Nat.zero_le _, rfl, Lib.hid ⟨by simp, Below.refl _ _⟩⟩
  case round =>
    obtain ⟨i, rfl, hi, hi', rfl, HR⟩ := hrel
    by_cases hlt : i < l.length
    · by_cases hlt' : i < l'.length
      · obtain ⟨ab, ao, rfl, -, ga⟩ := (H1.out.below HR.out.2).get i hlt
        obtain ⟨bb, bo, rfl, -, gb⟩ := (H2.out.below HR.out.2).get i hlt'
        simp only [Nat.zero_add] at ga gb
        have hj1 : (i : Int) < (l.length : Int) := by omega
        have hj2 : (i : Int) < (l'.length : Int) := by omega
        have HS := Lib.hid HR.out.2.drew
        clear hi hi'
        go_wp2_with fail
        refine wp_region_still_tail 8 (by kernel_rfl) (by kernel_rfl) ?_
        simp only [List.take_succ_cons, List.take_zero, List.drop_succ_cons, List.drop_zero]
        iterate 8 with_reducible still_step
        with_reducible refine wpStill_nil ?_
        change wpList _ _ _ _ _ (World.drew wr)
        generalize wr.drew = w2 at HS ⊢
        go_wp2_with (go_at_call 80; refine (texts_any _ _ _).mono ?_; rintro e w3 ⟨⟨c, rfl, hc1, hc2, hc⟩, rfl⟩; have HC := Lib.hid hc; clear hc; by_cases h0 : c = 0)
        · subst h0
          have hkey := HC.out.1 rfl
          go_wp2_with fail
          go_roundg (l.length - (i + 1))
          case measure => omega
          case rel => exact ⟨i + 1, by go_num, by omega, by omega, rfl, Lib.hid ⟨take_succ_eq HR.out.1 hlt hlt' hkey, HS.out⟩⟩
        · go_wp2_with fail
          go_ret
          exact ⟨⟨c, rfl, by omega, by omega, ⟨fun e => absurd e h0, fun e => by subst e; exact absurd (HC.out.2 rfl) h0⟩⟩, HS.out⟩
      · go_wp2_with fail
        go_ret
        exact ⟨⟨_, rfl, by omega, by omega, take_eq_end HR.out.1 ⟨hi, hi'⟩ (by omega)⟩, HR.out.2⟩
    · go_wp2_with fail
      go_ret
      exact ⟨⟨_, rfl, by omega, by omega, take_eq_end HR.out.1 ⟨hi, hi'⟩ (by omega)⟩, HR.out.2⟩

/-- What the order says of two good values. -/
def CmpPost (x y : RV) (w : World) (e : Ending) (w' : World) : Prop := (∃ c : Int, e = .returned (.int .i64 c) ∧ -1 ≤ c ∧ c ≤ 1 ∧ (c = 0 ↔ x = y)) ∧ Below w.heap.size w w'

def CmpIH (n : Nat) : Prop := ∀ (x y : RV) (va vb : Value) (w : World), x.nodes ≤ n → x.Good → y.Good → x.Rep w va → y.Rep w vb → Calls Tryz.prog 40 #[va, vb] w (CmpPost x y w)

set_option maxRecDepth 100000 in
set_option maxHeartbeats 1600000 in
theorem lists_any (n : Nat) (ih : CmpIH n) (a b : Option Addr) (ca cb : Nat) (l l' : List RV) (w : World) (hn : RV.nodesL l ≤ n) (hg : RV.GoodL l) (hg' : RV.GoodL l') (hl : l.length ≤ reachN) (hl' : l'.length ≤ reachN)
    (h1 : RV.RepL w a 0 l) (h2 : RV.RepL w b 0 l') :
    Calls Tryz.prog 81 #[.slice a l.length ca, .slice b l'.length cb] w fun e w' => (∃ c : Int, e = .returned (.int .i64 c) ∧ -reachN ≤ c ∧ c ≤ reachN ∧ (c = 0 ↔ l = l')) ∧ Below w.heap.size w w' := by
  have H1 := Lib.hid h1
  have H2 := Lib.hid h2
  have HG := Lib.hid (And.intro hg hg')
  have HN := Lib.hid hn
  have HIH := Lib.hid ih
  clear h1 h2 hg hg' hn ih
  unfold reachN at hl hl' ⊢
  go_enter Tryz.func81, Tryz.ntmps81
  go_wp2_with fail
  go_loopg [5] (l.length) (fun gk s5 wr => ∃ i : Nat, s5 = .int .i64 i ∧ i ≤ l.length ∧ i ≤ l'.length ∧ gk = l.length - i ∧ Hid (l.take i = l'.take i ∧ Below w.heap.size w wr))
  case atStart => exact ⟨0, rfl, Nat.zero_le _, Nat.zero_le _, rfl, Lib.hid ⟨by simp, Below.refl _ _⟩⟩
  case round =>
    obtain ⟨i, rfl, hi, hi', rfl, HR⟩ := hrel
    by_cases hlt : i < l.length
    · by_cases hlt' : i < l'.length
      · obtain ⟨ab, ao, x0, x1, x2, x3, x4, x5, rfl, ga0, ga1, ga2, ga3, ga4, ga5, hra⟩ := (H1.out.below HR.out.2).get i hlt
        obtain ⟨bb, bo, y0, y1, y2, y3, y4, y5, rfl, gb0, gb1, gb2, gb3, gb4, gb5, hrb⟩ := (H2.out.below HR.out.2).get i hlt'
        simp only [Nat.zero_add] at ga0 ga1 ga2 ga3 ga4 ga5 gb0 gb1 gb2 gb3 gb4 gb5
        have hj1 : (i : Int) < (l.length : Int) := by omega
        have hj2 : (i : Int) < (l'.length : Int) := by omega
        have HS := Lib.hid HR.out.2.drew
        have HRA := Lib.hid (hra.below (Below.refl _ wr).drew)
        have HRB := Lib.hid (hrb.below (Below.refl _ wr).drew)
        clear hi hi' hra hrb
        go_wp2_with fail
        refine wp_region_still_tail 8 (by kernel_rfl) (by kernel_rfl) ?_
        simp only [List.take_succ_cons, List.take_zero, List.drop_succ_cons, List.drop_zero]
        iterate 8 with_reducible still_step
        with_reducible refine wpStill_nil ?_
        change wpList _ _ _ _ _ (World.drew wr)
        generalize wr.drew = w2 at HS HRA HRB ⊢
        go_wp2_with (go_at_call 40; refine (HIH.out l[i] l'[i] _ _ _ (by have := RV.nodes_le hlt; have := HN.out; omega) (HG.out.1.get i hlt) (HG.out.2.get i hlt') HRA.out HRB.out).mono ?_; rintro e w3 ⟨⟨c, rfl, hc1, hc2, hc⟩, hb3⟩; have HB3 := Lib.hid (HS.out.trans (hb3.mono HS.out.size)); have HC := Lib.hid hc; clear hc hb3; by_cases h0 : c = 0)
        · subst h0
          have hkey := HC.out.1 rfl
          go_wp2_with fail
          go_roundg (l.length - (i + 1))
          case measure => omega
          case rel => exact ⟨i + 1, by go_num, by omega, by omega, rfl, Lib.hid ⟨take_succ_eq HR.out.1 hlt hlt' hkey, HB3.out⟩⟩
        · go_wp2_with fail
          go_ret
          exact ⟨⟨c, rfl, by omega, by omega, ⟨fun e => absurd e h0, fun e => by subst e; exact absurd (HC.out.2 rfl) h0⟩⟩, HB3.out⟩
      · go_wp2_with fail
        go_ret
        exact ⟨⟨_, rfl, by omega, by omega, take_eq_end HR.out.1 ⟨hi, hi'⟩ (by omega)⟩, HR.out.2⟩
    · go_wp2_with fail
      go_ret
      exact ⟨⟨_, rfl, by omega, by omega, take_eq_end HR.out.1 ⟨hi, hi'⟩ (by omega)⟩, HR.out.2⟩

theorem RV.Good.rest {k h : Int} {t : ByteArray} {l : List RV} {ks : List ByteArray} {vs : List RV} (g : (RV.mk k h t l ks vs).Good) :
    (k ≠ 3 → h = 0) ∧ (k ≠ 4 → t = ByteArray.empty) ∧ (k ≠ 5 → l = []) ∧ (k ≠ 6 → ks = [] ∧ vs = []) ∧ 0 ≤ k ∧ k ≤ 6 ∧ -18014398509481984 ≤ h ∧ h ≤ 18014398509481984 ∧ RV.GoodL l ∧ RV.GoodL vs := by
  unfold RV.Good at g
  obtain ⟨g1, g2, g3, g4, g5, g6, g7, g8, g9, g10, g11, g12, g13, g14, g15⟩ := g
  refine ⟨fun e => g3.resolve_left e, fun e => g4.resolve_left e, fun e => g5.resolve_left e, fun e => ?_, g1, g2, g8, g9, g12, g15⟩
  have := g6.resolve_left e
  subst this
  exact ⟨rfl, List.eq_nil_of_length_eq_zero g7.symm⟩

set_option maxRecDepth 100000 in
set_option maxHeartbeats 4000000 in
theorem cmp_all : ∀ n, CmpIH n := by
  intro n
  induction n with
  | zero => intro x y va vb w hn; have := RV.nodes_pos x; omega
  | succ n ih =>
    intro x y va vb w hn hg hg' hx hy
    obtain ⟨k, h, t, l, ks, vs⟩ := x
    obtain ⟨k', h', t', l', ks', vs'⟩ := y
    have hnl : RV.nodesL l ≤ n := by unfold RV.nodes at hn; omega
    have hnv : RV.nodesL vs ≤ n := by unfold RV.nodes at hn; omega
    unfold RV.Rep at hx hy
    obtain ⟨al, cl, ak, ck, av, cv, rfl, -, -, -, hll, hlk, hlv, hrl, hrk, hrv⟩ := hx
    obtain ⟨al', cl', ak', ck', av', cv', rfl, -, -, -, hll', hlk', hlv', hrl', hrk', hrv'⟩ := hy
    obtain ⟨r3, r4, r5, r6, hk0, hk6, hh0, hh1, gl, gv⟩ := hg.rest
    obtain ⟨r3', r4', r5', r6', hk0', hk6', hh0', hh1', gl', gv'⟩ := hg'.rest
    have HL := Lib.hid (And.intro hrl hrl')
    have HK := Lib.hid (And.intro hrk hrk')
    have HV := Lib.hid (And.intro hrv hrv')
    have HGL := Lib.hid (And.intro gl gl')
    have HGV := Lib.hid (And.intro gv gv')
    have HR := Lib.hid (And.intro (And.intro r3 (And.intro r4 (And.intro r5 r6))) (And.intro r3' (And.intro r4' (And.intro r5' r6'))))
    have HN := Lib.hid (And.intro hnl hnv)
    have HIH := Lib.hid ih
    have HLEN := Lib.hid (And.intro (And.intro hll hll') (And.intro (And.intro hlk hlk') (And.intro hlv hlv')))
    clear hrl hrl' hrk hrk' hrv hrv' gl gl' gv gv' r3 r3' r4 r4' r5 r5' r6 r6' hnl hnv hn ih hg hg' hll hll' hlk hlk' hlv hlv'
    unfold CmpPost
    have hB2 : ∀ a b : Obj, Below w.heap.size w ((w.alloc a).alloc b) := fun a b => ((Below.refl w.heap.size w).alloc (Nat.le_refl _) a).alloc (by simp) b
    have HB2 := Lib.hid hB2
    clear hB2
    by_cases hk : k = k'
    · subst hk
      by_cases k3 : k = 3
      · subst k3
        go_enter Tryz.func40, Tryz.ntmps40
        go_wp2_with (go_at_call 79; refine (sign_any _ _).mono ?_; rintro e w3 ⟨rfl, rfl⟩)
        go_ret
        have hs := signOf_range (h - h')
        refine ⟨⟨_, rfl, hs.1, hs.2.1, hs.2.2.trans ⟨fun e => ?_, fun e => by injection e; omega⟩⟩, HB2.out _ _⟩
        obtain ⟨⟨-, a4, a5, a6⟩, ⟨-, b4, b5, b6⟩⟩ := HR.out
        have : h = h' := by omega
        subst this
        rw [a4 (by decide), b4 (by decide), a5 (by decide), b5 (by decide), (a6 (by decide)).1, (b6 (by decide)).1, (a6 (by decide)).2, (b6 (by decide)).2]
      · by_cases k4 : k = 4
        · subst k4
          go_enter Tryz.func40, Tryz.ntmps40
          go_wp2_with (go_at_call 80; refine (texts_any _ _ _).mono ?_; rintro e w3 ⟨⟨c, rfl, hc1, hc2, hc⟩, rfl⟩; have HC := Lib.hid hc; clear hc)
          go_ret
          refine ⟨⟨c, rfl, hc1, hc2, HC.out.trans ⟨fun e => ?_, fun e => by injection e⟩⟩, HB2.out _ _⟩
          obtain ⟨⟨a3, -, a5, a6⟩, ⟨b3, -, b5, b6⟩⟩ := HR.out
          subst e
          rw [a3 (by decide), b3 (by decide), a5 (by decide), b5 (by decide), (a6 (by decide)).1, (b6 (by decide)).1, (a6 (by decide)).2, (b6 (by decide)).2]
        · by_cases k5 : k = 5
          · subst k5
            go_enter Tryz.func40, Tryz.ntmps40
            go_wp2_with (first | (go_at_call 81; refine (lists_any n HIH.out _ _ _ _ _ _ _ HN.out.1 HGL.out.1 HGL.out.2 HLEN.out.1.1 HLEN.out.1.2 (HL.out.1.below (HB2.out _ _)) (HL.out.2.below (HB2.out _ _))).mono ?_; rintro e w3 ⟨⟨c, rfl, hc1, hc2, hc⟩, hb3⟩; unfold reachN at hc1 hc2; have HC := Lib.hid hc; have HB3 := Lib.hid ((HB2.out _ _).trans (hb3.mono (by simp; omega))); clear hc hb3) | (go_at_call 79; refine (sign_any _ _).mono ?_; rintro e w4 ⟨rfl, rfl⟩))
            go_ret
            have hs := signOf_range c
            refine ⟨⟨_, rfl, hs.1, hs.2.1, (hs.2.2.trans HC.out).trans ⟨fun e => ?_, fun e => by injection e⟩⟩, HB3.out⟩
            obtain ⟨⟨a3, a4, -, a6⟩, ⟨b3, b4, -, b6⟩⟩ := HR.out
            subst e
            rw [a3 (by decide), b3 (by decide), a4 (by decide), b4 (by decide), (a6 (by decide)).1, (b6 (by decide)).1, (a6 (by decide)).2, (b6 (by decide)).2]
          · by_cases k6 : k = 6
            · subst k6
              go_enter Tryz.func40, Tryz.ntmps40
              go_wp2_with fail
              refine (keys_any _ _ _ _ _ _ _ HLEN.out.2.1.1 HLEN.out.2.1.2 (HK.out.1.below (HB2.out _ _)) (HK.out.2.below (HB2.out _ _))).mono ?_
              rintro e w3 ⟨⟨c, rfl, hc1, hc2, hc⟩, hb3⟩
              unfold reachN at hc1 hc2
              have HC := Lib.hid hc
              have HB3 := Lib.hid ((HB2.out _ _).trans (hb3.mono (by simp; omega)))
              obtain ⟨hcell, -⟩ := bcell hb3
              clear hc hb3
              by_cases h0 : c = 0
              · subst h0
                have E2 := Lib.hid (HC.out.1 rfl)
                clear HC
                go_wp2_with (first | (go_at_call 81; refine (lists_any n HIH.out _ _ _ _ _ _ _ HN.out.2 HGV.out.1 HGV.out.2 HLEN.out.2.2.1 HLEN.out.2.2.2 (HV.out.1.below HB3.out) (HV.out.2.below HB3.out)).mono ?_; rintro e w4 ⟨⟨c, rfl, hc1, hc2, hc⟩, hb4⟩; unfold reachN at hc1 hc2; have HC4 := Lib.hid hc; have HB4 := Lib.hid (HB3.out.trans (hb4.mono HB3.out.size)); clear hc hb4) | (go_at_call 79; refine (sign_any _ _).mono ?_; rintro e w5 ⟨rfl, rfl⟩))
                go_ret
                have hs := signOf_range c
                refine ⟨⟨_, rfl, hs.1, hs.2.1, (hs.2.2.trans HC4.out).trans ⟨fun e => ?_, fun e => by injection e⟩⟩, HB4.out⟩
                obtain ⟨⟨a3, a4, a5, -⟩, ⟨b3, b4, b5, -⟩⟩ := HR.out
                have e2 := E2.out
                subst e
                subst e2
                rw [a3 (by decide), b3 (by decide), a4 (by decide), b4 (by decide), a5 (by decide), b5 (by decide)]
              · go_wp2_with (go_at_call 79; refine (sign_any _ _).mono ?_; rintro e w5 ⟨rfl, rfl⟩)
                go_ret
                have hs := signOf_range c
                refine ⟨⟨_, rfl, hs.1, hs.2.1, (hs.2.2.trans HC.out).trans ⟨fun e => ?_, fun e => by injection e⟩⟩, HB3.out⟩
                exact absurd (HC.out.2 e) h0
            · go_enter Tryz.func40, Tryz.ntmps40
              go_wp2_with fail
              go_ret
              refine ⟨⟨0, rfl, by omega, by omega, ⟨fun _ => ?_, fun _ => rfl⟩⟩, HB2.out _ _⟩
              obtain ⟨⟨a3, a4, a5, a6⟩, ⟨b3, b4, b5, b6⟩⟩ := HR.out
              rw [a3 k3, b3 k3, a4 k4, b4 k4, a5 k5, b5 k5, (a6 k6).1, (b6 k6).1, (a6 k6).2, (b6 k6).2]
    · go_enter Tryz.func40, Tryz.ntmps40
      go_wp2_with (go_at_call 79; refine (sign_any _ _).mono ?_; rintro e w3 ⟨rfl, rfl⟩)
      go_ret
      have hs := signOf_range (k - k')
      exact ⟨⟨_, rfl, hs.1, hs.2.1, hs.2.2.trans ⟨fun e => by omega, fun e => by injection e; omega⟩⟩, HB2.out _ _⟩

set_option maxRecDepth 100000 in
theorem same_any (x y : RV) (va vb : Value) (w : World) (hg : x.Good) (hg' : y.Good) (hx : x.Rep w va) (hy : y.Rep w vb) :
    Calls Tryz.prog 15 #[va, vb] w fun e w' => (∃ b, e = .returned (.bool b) ∧ (b = true ↔ x = y)) ∧ Below w.heap.size w w' := by
  have hB2 : ∀ a b : Obj, Below w.heap.size w ((w.alloc a).alloc b) := fun a b => ((Below.refl w.heap.size w).alloc (Nat.le_refl _) a).alloc (by simp) b
  have hC := fun (wx : World) (hb : Below w.heap.size w wx) => cmp_all x.nodes x y va vb wx (Nat.le_refl _) hg hg' (hx.below hb) (hy.below hb)
  obtain ⟨k, h, t, l, ks, vs⟩ := x
  obtain ⟨k', h', t', l', ks', vs'⟩ := y
  unfold RV.Rep at hx hy
  obtain ⟨al, cl, ak, ck, av, cv, rfl, -, -, -, hll, hlk, hlv, hrl, hrk, hrv⟩ := hx
  obtain ⟨al', cl', ak', ck', av', cv', rfl, -, -, -, hll', hlk', hlv', hrl', hrk', hrv'⟩ := hy
  clear hrl hrl' hrk hrk' hrv hrv' hg hg' hll hll' hlk hlk' hlv hlv'
  have HB2 := Lib.hid hB2
  have HC := Lib.hid hC
  clear hB2 hC
  go_enter Tryz.func15, Tryz.ntmps15
  go_wp2_with (go_at_call 40; refine (HC.out _ (HB2.out _ _)).mono ?_; rintro e w3 ⟨⟨c, rfl, hc1, hc2, hc⟩, hb3⟩; have HD := Lib.hid hc; have HB3 := Lib.hid ((HB2.out _ _).trans (hb3.mono (by simp; omega))); clear hc hb3)
  go_ret
  exact ⟨⟨_, rfl, by simpa using HD.out⟩, HB3.out⟩
end Go.Proofs.YtjpcdbopioblaaaGreatDoor

/- The JSON texts of two good trees are the same only if the trees are: plain. -/
namespace Go.Proofs.YtjpcdbopioblaaaGreatDoor
open Go.RowKit

/-- What may stand behind a value's text. -/
def Ends : List UInt8 → Prop
  | [] => True
  | c :: _ => c = 44 ∨ c = 93 ∨ c = 125
/-- A byte of a number. -/
def numC (c : UInt8) : Bool := c == 45 || c == 46 || (decide (48 ≤ c.toNat) && decide (c.toNat ≤ 57))
theorem num_cut : ∀ {l m r s : List UInt8}, (∀ c ∈ l, numC c = true) → (∀ c ∈ m, numC c = true) → Ends r → Ends s → l ++ r = m ++ s → l = m ∧ r = s
  | [], [], _, _, _, _, _, _, he => ⟨rfl, he⟩
  | [], c :: m, r, s, _, hm, er, _, he => by
    have h := hm c (by simp)
    rw [List.nil_append] at he
    rw [he] at er
    rcases er with e | e | e <;> (rw [e] at h; exact absurd h (by decide))
  | c :: l, [], r, s, hl, _, _, es, he => by
    have h := hl c (by simp)
    rw [List.nil_append] at he
    rw [← he] at es
    rcases es with e | e | e <;> (rw [e] at h; exact absurd h (by decide))
  | c :: l, d :: m, r, s, hl, hm, er, es, he => by
    rw [List.cons_append, List.cons_append] at he
    injection he with e1 e2
    have h := num_cut (fun c hc => hl c (by simp [hc])) (fun c hc => hm c (by simp [hc])) er es e2
    exact ⟨by rw [e1, h.1], h.2⟩

/-! Numbers -/
theorem digText_dig {n : Nat} {c : UInt8} (h : c ∈ digText n) : 48 ≤ c.toNat ∧ c.toNat ≤ 57 := by
  unfold digText at h
  obtain ⟨d, hd, rfl⟩ := List.mem_map.1 h
  have := digs_dig n d hd
  rw [UInt8.toNat_ofNat']
  omega
theorem map_dig_inj : ∀ {l m : List Nat}, (∀ d ∈ l, d < 10) → (∀ d ∈ m, d < 10) → (l.map fun d => UInt8.ofNat (48 + d)) = (m.map fun d => UInt8.ofNat (48 + d)) → l = m
  | [], [], _, _, _ => rfl
  | [], _ :: _, _, _, h => by cases h
  | _ :: _, [], _, _, h => by cases h
  | c :: l, d :: m, hl, hm, h => by
    rw [List.map_cons, List.map_cons] at h
    injection h with h1 h2
    have h3 := congrArg UInt8.toNat h1
    rw [UInt8.toNat_ofNat', UInt8.toNat_ofNat'] at h3
    have h4 := hl c (by simp)
    have h5 := hm d (by simp)
    obtain rfl : c = d := by omega
    rw [map_dig_inj (fun x hx => hl x (by simp [hx])) (fun x hx => hm x (by simp [hx])) h2]
theorem digText_inj {n m : Nat} (h : digText n = digText m) : n = m := by
  have h2 : dig n = dig m := map_dig_inj (digs_dig n) (digs_dig m) h
  rw [← numL_dig n, ← numL_dig m, h2]
/-- A number's text in three parts. -/
theorem numT_parts (h : Int) : numT h = (if h < 0 then [45] else []) ++ (digText (h.natAbs / 2) ++ (if h % 2 = 0 then [] else [46, 53])) := by
  unfold numT
  by_cases h0 : h.tmod 2 = 0
  · have e := Int.mul_tdiv_add_tmod h 2
    have h2 : h % 2 = 0 := by omega
    rw [if_pos h0, if_pos h2, List.append_nil]
    unfold intText
    congr 1
    · split <;> split <;> first | rfl | omega
    · congr 1
      omega
  · have h2 : h % 2 ≠ 0 := fun e => h0 (Int.tmod_eq_zero_of_dvd (Int.dvd_of_emod_eq_zero e))
    rw [if_neg h0, if_neg h2]
    unfold numBytes numTxt digText
    rw [List.map_append, List.map_append, List.append_assoc, if_pos (show h.natAbs % 2 = 1 by omega), List.map_map]
    congr 1
    by_cases h3 : h < 0
    · simp [h3]
    · simp [h3]
theorem numT_num {h : Int} : ∀ c ∈ numT h, numC c = true := by
  intro c hc
  rw [numT_parts] at hc
  rcases List.mem_append.1 hc with hc | hc
  · split at hc
    · rw [List.mem_singleton.1 hc]; decide
    · cases hc
  · rcases List.mem_append.1 hc with hc | hc
    · have := digText_dig hc
      unfold numC
      simp [this.1, this.2]
    · split at hc
      · cases hc
      · rcases List.mem_cons.1 hc with e | hc
        · rw [e]; decide
        · rw [List.mem_singleton.1 hc]; decide
theorem digText_ne (n : Nat) : digText n ≠ [] := by
  unfold digText
  intro e
  exact dig_ne n (List.map_eq_nil_iff.1 e)
theorem numT_ne (h : Int) : numT h ≠ [] := by
  rw [numT_parts]
  intro e
  exact digText_ne _ (List.append_eq_nil_iff.1 (List.append_eq_nil_iff.1 e).2).1
theorem frac_cut {n m : Nat} {p q : Prop} [Decidable p] [Decidable q] (h : digText n ++ (if p then [] else [46, 53]) = digText m ++ (if q then [] else [46, 53])) : n = m ∧ (p ↔ q) := by
  by_cases hp : p
  · by_cases hq : q
    · rw [if_pos hp, if_pos hq, List.append_nil, List.append_nil] at h
      exact ⟨digText_inj h, by simp [hp, hq]⟩
    · rw [if_pos hp, if_neg hq, List.append_nil] at h
      have : (46 : UInt8) ∈ digText n := by rw [h]; simp
      exact absurd (digText_dig this).1 (by decide)
  · by_cases hq : q
    · rw [if_neg hp, if_pos hq, List.append_nil] at h
      have : (46 : UInt8) ∈ digText m := by rw [← h]; simp
      exact absurd (digText_dig this).1 (by decide)
    · rw [if_neg hp, if_neg hq] at h
      exact ⟨digText_inj (List.append_cancel_right h), by simp [hp, hq]⟩
theorem dig_no_minus {n : Nat} {f g : List UInt8} (h : digText n ++ f = 45 :: g) : False := by
  cases hd : digText n with
  | nil => exact digText_ne n hd
  | cons c l =>
    rw [hd, List.cons_append] at h
    injection h with h1 _
    have := digText_dig (n := n) (c := c) (by rw [hd]; simp)
    rw [h1] at this
    exact absurd this.1 (by decide)
theorem numT_inj {h k : Int} (e : numT h = numT k) : h = k := by
  rw [numT_parts, numT_parts] at e
  by_cases h0 : h < 0
  · by_cases k0 : k < 0
    · rw [if_pos h0, if_pos k0] at e
      have := frac_cut (List.append_cancel_left e)
      omega
    · rw [if_pos h0, if_neg k0] at e
      exact (dig_no_minus e.symm).elim
  · by_cases k0 : k < 0
    · rw [if_neg h0, if_pos k0] at e
      exact (dig_no_minus e).elim
    · rw [if_neg h0, if_neg k0] at e
      have := frac_cut e
      omega

/-! Strings -/
def unesc (e : UInt8) : UInt8 := if e = 98 then 8 else if e = 102 then 12 else if e = 110 then 10 else if e = 114 then 13 else if e = 116 then 9 else e
def unhex (e : UInt8) : Nat := if e.toNat < 58 then e.toNat - 48 else e.toNat - 87
def shapeB (c : UInt8) : Bool := match encB c with
  | [x] => x == c && !(c == 92) && !(c == 34)
  | [x, e] => x == 92 && !(e == 117) && unesc e == c
  | [x, y, z, u, a, b] => x == 92 && y == 117 && z == 48 && u == 48 && UInt8.ofNat (unhex a * 16 + unhex b) == c
  | _ => false
theorem shapeB_all : ((List.range 256).all fun n => shapeB (UInt8.ofNat n)) = true := by decide +kernel
theorem encB_shape (c : UInt8) : (encB c = [c] ∧ c ≠ 92 ∧ c ≠ 34) ∨ (∃ e, encB c = [92, e] ∧ e ≠ 117 ∧ unesc e = c) ∨ (∃ a b, encB c = [92, 117, 48, 48, a, b] ∧ UInt8.ofNat (unhex a * 16 + unhex b) = c) := by
  have h := List.all_eq_true.1 shapeB_all c.toNat (by simpa using c.toNat_lt)
  rw [UInt8.ofNat_toNat] at h
  unfold shapeB at h
  split at h
  · rename_i x e
    simp only [Bool.and_eq_true, beq_iff_eq, Bool.not_eq_true', beq_eq_false_iff_ne] at h
    exact .inl ⟨by rw [e, h.1.1], h.1.2, h.2⟩
  · rename_i x e' e
    simp only [Bool.and_eq_true, beq_iff_eq, Bool.not_eq_true', beq_eq_false_iff_ne] at h
    exact .inr (.inl ⟨e', by rw [e, h.1.1], h.1.2, h.2⟩)
  · rename_i x y z u a b e
    simp only [Bool.and_eq_true, beq_iff_eq] at h
    exact .inr (.inr ⟨a, b, by rw [e, h.1.1.1.1, h.1.1.1.2, h.1.1.2, h.1.2], h.2⟩)
  · cases h
theorem encB_cut {c d : UInt8} {r s : List UInt8} (h : encB c ++ r = encB d ++ s) : c = d ∧ r = s := by
  rcases encB_shape c with ⟨e, h1, h2⟩ | ⟨x, e, h1, h2⟩ | ⟨a, b, e, h1⟩ <;> rcases encB_shape d with ⟨f, k1, k2⟩ | ⟨y, f, k1, k2⟩ | ⟨a', b', f, k1⟩ <;> rw [e, f] at h <;>
    simp only [List.cons_append, List.nil_append, List.cons.injEq] at h
  · exact h
  · exact absurd h.1 h1
  · exact absurd h.1 h1
  · exact absurd h.1.symm k1
  · exact ⟨by rw [← h2, ← k2, h.2.1], h.2.2⟩
  · exact absurd h.2.1 h1
  · exact absurd h.1.symm k1
  · exact absurd h.2.1.symm k1
  · exact ⟨by rw [← h1, ← k1, h.2.2.2.2.1, h.2.2.2.2.2.1], h.2.2.2.2.2.2⟩
theorem encB_no_quote {c : UInt8} {r s : List UInt8} (h : encB c ++ r = 34 :: s) : False := by
  rcases encB_shape c with ⟨e, h1, h2⟩ | ⟨x, e, h1, h2⟩ | ⟨a, b, e, h1⟩ <;> rw [e] at h <;> simp only [List.cons_append, List.nil_append, List.cons.injEq] at h
  · exact h2 h.1
  · exact absurd h.1 (by decide)
  · exact absurd h.1 (by decide)
theorem str_cut : ∀ {t u r s : List UInt8}, t.flatMap encB ++ 34 :: r = u.flatMap encB ++ 34 :: s → t = u ∧ r = s
  | [], [], _, _, h => by simpa using h
  | [], d :: u, _, _, h => by
    rw [List.flatMap_cons, List.append_assoc] at h
    exact (encB_no_quote h.symm).elim
  | c :: t, [], _, _, h => by
    rw [List.flatMap_cons, List.append_assoc] at h
    exact (encB_no_quote h).elim
  | c :: t, d :: u, _, _, h => by
    rw [List.flatMap_cons, List.append_assoc, List.flatMap_cons, List.append_assoc] at h
    obtain ⟨rfl, h2⟩ := encB_cut h
    have := str_cut h2
    exact ⟨by rw [this.1], this.2⟩
theorem strT_cut {t u : ByteArray} {r s : List UInt8} (h : strT t ++ r = strT u ++ s) : t = u ∧ r = s := by
  unfold strT at h
  simp only [List.cons_append, List.append_assoc, List.nil_append, List.cons.injEq, true_and] at h
  obtain ⟨h1, h2⟩ := str_cut h
  exact ⟨ByteArray.ext (Array.toList_inj.1 h1), h2⟩

/-! Trees -/
/-- The kind that a first byte tells. -/
def kindC (c : UInt8) : Int := if c = 110 then 0 else if c = 102 then 1 else if c = 116 then 2 else if c = 34 then 4 else if c = 91 then 5 else if c = 123 then 6 else if numC c then 3 else -1
theorem kindC_num : ((List.range 256).all fun n => !(numC (UInt8.ofNat n)) || kindC (UInt8.ofNat n) == 3) = true := by decide +kernel
theorem kindC_of_num {c : UInt8} (h : numC c = true) : kindC c = 3 := by
  have h1 := List.all_eq_true.1 kindC_num c.toNat (by simpa using c.toNat_lt)
  rw [UInt8.ofNat_toNat, h] at h1
  simpa using h1
theorem txt_head : ∀ {x : RV}, x.Good → ∃ c r, x.txt = c :: r ∧ kindC c = x.kd
  | .mk k h t l ks vs, hg => by
    obtain ⟨-, -, -, -, h0, h6, -⟩ := hg.rest
    unfold RV.txt
    show ∃ c r, _ ∧ kindC c = k
    by_cases k0 : k = 0
    · subst k0; exact ⟨110, _, rfl, by decide⟩
    rw [if_neg k0]
    by_cases k1 : k = 1
    · subst k1; exact ⟨102, _, rfl, by decide⟩
    rw [if_neg k1]
    by_cases k2 : k = 2
    · subst k2; exact ⟨116, _, rfl, by decide⟩
    rw [if_neg k2]
    by_cases k3 : k = 3
    · subst k3
      rw [if_pos rfl]
      cases e : numT h with
      | nil => exact absurd e (numT_ne h)
      | cons c r => exact ⟨c, r, rfl, kindC_of_num (numT_num c (by rw [e]; simp))⟩
    rw [if_neg k3]
    by_cases k4 : k = 4
    · subst k4; exact ⟨34, _, rfl, by decide⟩
    rw [if_neg k4]
    by_cases k5 : k = 5
    · subst k5; exact ⟨91, _, rfl, by decide⟩
    rw [if_neg k5]
    obtain rfl : k = 6 := by omega
    exact ⟨123, _, rfl, by decide⟩
theorem good_kd {x : RV} (h : x.Good) : 0 ≤ x.kd := by
  obtain ⟨k, h', t, l, ks, vs⟩ := x
  exact h.rest.2.2.2.2.1
theorem txt_not {x : RV} {c : UInt8} {r s : List UInt8} (hg : x.Good) (hc : kindC c < 0) (h : c :: r = x.txt ++ s) : False := by
  obtain ⟨d, r', e, hk⟩ := txt_head hg
  rw [e, List.cons_append] at h
  injection h with h1 _
  rw [h1, hk] at hc
  have := good_kd hg
  omega
theorem txt_kind {x y : RV} {r s : List UInt8} (hx : x.Good) (hy : y.Good) (h : x.txt ++ r = y.txt ++ s) : x.kd = y.kd := by
  obtain ⟨c, r', e, hk⟩ := txt_head hx
  obtain ⟨d, s', f, hl⟩ := txt_head hy
  rw [e, f, List.cons_append, List.cons_append] at h
  injection h with h1 _
  rw [← hk, ← hl, h1]
theorem ends_txtC (l : List RV) (r : List UInt8) : Ends (RV.txtC l ++ 93 :: r) := by
  cases l with
  | nil => exact .inr (.inl rfl)
  | cons x l => unfold RV.txtC; exact .inl rfl
theorem ends_txtM (ks : List ByteArray) (l : List RV) (r : List UInt8) : Ends (RV.txtM ks l ++ 125 :: r) := by
  cases l with
  | nil => exact .inr (.inr rfl)
  | cons x l => unfold RV.txtM; exact .inl rfl
mutual
theorem txt_cut : ∀ {x y : RV} {r s : List UInt8}, x.Good → y.Good → Ends r → Ends s → x.txt ++ r = y.txt ++ s → x = y ∧ r = s
  | .mk k h t l ks vs, .mk k' h' t' l' ks' vs', r, s, hx, hy, er, es, he => by
    obtain rfl : k = k' := txt_kind hx hy he
    obtain ⟨x3, x4, x5, x6, x0, x7, -, -, xl, xv⟩ := hx.rest
    obtain ⟨y3, y4, y5, y6, -, -, -, -, yl, yv⟩ := hy.rest
    have xk := hx.keys
    have yk := hy.keys
    unfold RV.txt at he
    by_cases k3 : k = 3
    · subst k3
      obtain ⟨e, hr⟩ := num_cut numT_num numT_num er es he
      have := numT_inj e
      rw [x4 (by decide), x5 (by decide), (x6 (by decide)).1, (x6 (by decide)).2, y4 (by decide), y5 (by decide), (y6 (by decide)).1, (y6 (by decide)).2, this]
      exact ⟨rfl, hr⟩
    rw [x3 k3, y3 k3]
    by_cases k4 : k = 4
    · subst k4
      obtain ⟨e, hr⟩ := strT_cut he
      rw [x5 (by decide), (x6 (by decide)).1, (x6 (by decide)).2, y5 (by decide), (y6 (by decide)).1, (y6 (by decide)).2, e]
      exact ⟨rfl, hr⟩
    rw [x4 k4, y4 k4]
    by_cases k5 : k = 5
    · subst k5
      rw [(x6 (by decide)).1, (x6 (by decide)).2, (y6 (by decide)).1, (y6 (by decide)).2]
      have h2 : (RV.txtC l).drop 1 ++ 93 :: r = (RV.txtC l').drop 1 ++ 93 :: s := by simpa using he
      obtain ⟨e, hr⟩ := txtC_cut0 xl yl h2
      exact ⟨by rw [e], hr⟩
    rw [x5 k5, y5 k5]
    by_cases k6 : k = 6
    · subst k6
      have h2 : (RV.txtM ks vs).drop 1 ++ 125 :: r = (RV.txtM ks' vs').drop 1 ++ 125 :: s := by simpa using he
      obtain ⟨e, e2, hr⟩ : vs = vs' ∧ ks = ks' ∧ r = s := txtM_cut0 xk.2.1 yk.2.1 xv yv h2
      exact ⟨by rw [e, e2], hr⟩
    rw [(x6 k6).1, (x6 k6).2, (y6 k6).1, (y6 k6).2]
    have : k = 0 ∨ k = 1 ∨ k = 2 := by omega
    refine ⟨rfl, ?_⟩
    rcases this with rfl | rfl | rfl <;> simpa using he
theorem txtC_cut0 : ∀ {l m : List RV} {r s : List UInt8}, RV.GoodL l → RV.GoodL m → (RV.txtC l).drop 1 ++ 93 :: r = (RV.txtC m).drop 1 ++ 93 :: s → l = m ∧ r = s
  | [], [], _, _, _, _, h => by simpa [RV.txtC] using h
  | [], y :: m, r, s, _, hm, h => by
    unfold RV.GoodL at hm
    have h2 : 93 :: r = y.txt ++ (RV.txtC m ++ 93 :: s) := by simpa [RV.txtC] using h
    exact (txt_not hm.1 (by decide) h2).elim
  | x :: l, [], r, s, hl, _, h => by
    unfold RV.GoodL at hl
    have h2 : x.txt ++ (RV.txtC l ++ 93 :: r) = 93 :: s := by simpa [RV.txtC] using h
    exact (txt_not hl.1 (by decide) h2.symm).elim
  | x :: l, y :: m, r, s, hl, hm, h => by
    unfold RV.GoodL at hl hm
    have h2 : x.txt ++ (RV.txtC l ++ 93 :: r) = y.txt ++ (RV.txtC m ++ 93 :: s) := by simpa [RV.txtC] using h
    obtain ⟨rfl, h3⟩ := txt_cut hl.1 hm.1 (ends_txtC l r) (ends_txtC m s) h2
    obtain ⟨rfl, h4⟩ := txtC_cut hl.2 hm.2 h3
    exact ⟨rfl, h4⟩
theorem txtC_cut : ∀ {l m : List RV} {r s : List UInt8}, RV.GoodL l → RV.GoodL m → RV.txtC l ++ 93 :: r = RV.txtC m ++ 93 :: s → l = m ∧ r = s
  | [], [], _, _, _, _, h => by simpa [RV.txtC] using h
  | [], y :: m, _, _, _, _, h => by simp [RV.txtC] at h
  | x :: l, [], _, _, _, _, h => by simp [RV.txtC] at h
  | x :: l, y :: m, r, s, hl, hm, h => by
    unfold RV.GoodL at hl hm
    have h2 : x.txt ++ (RV.txtC l ++ 93 :: r) = y.txt ++ (RV.txtC m ++ 93 :: s) := by simpa [RV.txtC] using h
    obtain ⟨rfl, h3⟩ := txt_cut hl.1 hm.1 (ends_txtC l r) (ends_txtC m s) h2
    obtain ⟨rfl, h4⟩ := txtC_cut hl.2 hm.2 h3
    exact ⟨rfl, h4⟩
theorem txtM_cut0 : ∀ {vs ws : List RV} {ks kl : List ByteArray} {r s : List UInt8}, ks.length = vs.length → kl.length = ws.length → RV.GoodL vs → RV.GoodL ws → (RV.txtM ks vs).drop 1 ++ 125 :: r = (RV.txtM kl ws).drop 1 ++ 125 :: s → vs = ws ∧ ks = kl ∧ r = s
  | [], [], [], [], _, _, _, _, _, _, h => by simpa [RV.txtM] using h
  | [], y :: m, [], k :: kl, r, s, _, _, _, _, h => by
    have h2 : 125 :: r = strT k ++ (58 :: (y.txt ++ (RV.txtM kl m ++ 125 :: s))) := by simpa [RV.txtM] using h
    unfold strT at h2
    simp at h2
  | x :: l, [], k :: ks, [], r, s, _, _, _, _, h => by
    have h2 : strT k ++ (58 :: (x.txt ++ (RV.txtM ks l ++ 125 :: r))) = 125 :: s := by simpa [RV.txtM] using h
    unfold strT at h2
    simp at h2
  | x :: l, y :: m, k :: ks, k' :: kl, r, s, h1, h2, hl, hm, h => by
    unfold RV.GoodL at hl hm
    have h3 : strT k ++ (58 :: (x.txt ++ (RV.txtM ks l ++ 125 :: r))) = strT k' ++ (58 :: (y.txt ++ (RV.txtM kl m ++ 125 :: s))) := by simpa [RV.txtM] using h
    obtain ⟨rfl, h4⟩ := strT_cut h3
    injection h4 with _ h4
    obtain ⟨rfl, h5⟩ := txt_cut hl.1 hm.1 (ends_txtM ks l r) (ends_txtM kl m s) h4
    obtain ⟨rfl, rfl, h6⟩ := txtM_cut (by simpa using h1) (by simpa using h2) hl.2 hm.2 h5
    exact ⟨rfl, rfl, h6⟩
theorem txtM_cut : ∀ {vs ws : List RV} {ks kl : List ByteArray} {r s : List UInt8}, ks.length = vs.length → kl.length = ws.length → RV.GoodL vs → RV.GoodL ws → RV.txtM ks vs ++ 125 :: r = RV.txtM kl ws ++ 125 :: s → vs = ws ∧ ks = kl ∧ r = s
  | [], [], [], [], _, _, _, _, _, _, h => by simpa [RV.txtM] using h
  | [], y :: m, _, _, _, _, _, _, _, _, h => by simp [RV.txtM] at h
  | x :: l, [], _, _, _, _, _, _, _, _, h => by simp [RV.txtM] at h
  | x :: l, y :: m, k :: ks, k' :: kl, r, s, h1, h2, hl, hm, h => by
    unfold RV.GoodL at hl hm
    have h3 : strT k ++ (58 :: (x.txt ++ (RV.txtM ks l ++ 125 :: r))) = strT k' ++ (58 :: (y.txt ++ (RV.txtM kl m ++ 125 :: s))) := by simpa [RV.txtM] using h
    obtain ⟨rfl, h4⟩ := strT_cut h3
    injection h4 with _ h4
    obtain ⟨rfl, h5⟩ := txt_cut hl.1 hm.1 (ends_txtM ks l r) (ends_txtM kl m s) h4
    obtain ⟨rfl, rfl, h6⟩ := txtM_cut (by simpa using h1) (by simpa using h2) hl.2 hm.2 h5
    exact ⟨rfl, rfl, h6⟩
end
/-- Two good trees with one text are one. -/
theorem txt_inj {x y : RV} (hx : x.Good) (hy : y.Good) (h : x.txt = y.txt) : x = y :=
  (txt_cut (r := []) (s := []) hx hy trivial trivial (by rw [h])).1
end Go.Proofs.YtjpcdbopioblaaaGreatDoor

/- spec.quoted and spec.figures walked: the JSON text of a string, of a number. -/
namespace Go.Proofs.YtjpcdbopioblaaaGreatDoor
open Go.RowKit

/-- A text and how it ended: fine, and it is this one, or the reference is silent. -/
def Told (k : Nat) (l : List UInt8) (w : World) (e : Ending) (w' : World) : Prop := ∃ (t : ByteArray) (how : Int), e = .returned (.tuple #[.string t, .int .i64 how]) ∧ ((how = 0 ∧ t = ⟨l.toArray⟩) ∨ (how = 2 ∧ t.size ≤ k)) ∧ Below w.heap.size w w'

theorem Told.mono {k k' : Nat} {l : List UInt8} {w w' : World} {e : Ending} (h : Told k l w e w') (hk : k ≤ k') : Told k' l w e w' := by
  obtain ⟨t, how, e, h, hb⟩ := h
  exact ⟨t, how, e, h.imp id (fun h => ⟨h.1, Nat.le_trans h.2 hk⟩), hb⟩
/-- What is written of a string up to its byte i. -/
def qText (s : ByteArray) (i : Nat) : ByteArray := ⟨(34 :: (s.data.toList.take i).flatMap encB).toArray⟩
theorem ba_get {s : ByteArray} {i : Nat} (h : i < s.size) : s.data.toList[i]'(by simpa using h) = s[i] := rfl
theorem qText_zero (s : ByteArray) : qText s 0 = ⟨#[34]⟩ := by unfold qText; rfl
theorem qText_succ {s : ByteArray} {i : Nat} (h : i < s.size) : qText s (i + 1) = qText s i ++ ⟨(encB s[i]).toArray⟩ := by
  unfold qText
  rw [List.take_succ_eq_append_getElem (by simpa using h), ba_get h, List.flatMap_append]
  refine ByteArray.ext ?_
  simp
theorem qText_size (s : ByteArray) (i : Nat) : (qText s i).size ≤ 6 * s.size + 1 := by
  have h : ∀ l : List UInt8, (l.flatMap encB).length ≤ 6 * l.length := fun l => by
    induction l with
    | nil => simp
    | cons c l ih =>
      have h1 : (encB c).length ≤ 6 := by unfold encB; repeat' split
                                          all_goals simp
      rw [List.flatMap_cons, List.length_append, List.length_cons]; omega
  have h1 := h (s.data.toList.take i)
  have h2 : (qText s i).size = ((s.data.toList.take i).flatMap encB).length + 1 := by
    show (List.toArray _).size = _
    simp
  have h3 : (s.data.toList.take i).length ≤ s.size := by
    rw [List.length_take, Array.length_toList]
    exact Nat.min_le_right _ _
  omega
theorem qText_done (s : ByteArray) : qText s s.size ++ ⟨#[34]⟩ = ⟨(strT s).toArray⟩ := by
  unfold qText strT
  rw [List.take_of_length_le (by rw [Array.length_toList]; exact Nat.le_refl _)]
  refine ByteArray.ext ?_
  simp
theorem ba_one (s : ByteArray) (i : Nat) (h : i < s.size) : s.extract i (i + 1) = ⟨#[s[i]]⟩ := by
  apply ByteArray.ext
  apply Array.toList_inj.1
  rw [ByteArray.data_extract, Array.toList_extract, List.extract_eq_drop_take', List.take_succ_eq_append_getElem (by simpa using h), ba_get h, List.drop_append_of_le_length (by simp; omega)]
  simp
theorem hex_cut : ∀ k : Fin 16, (⟨#[48, 49, 50, 51, 52, 53, 54, 55, 56, 57, 97, 98, 99, 100, 101, 102]⟩ : ByteArray).extract k.val (k.val + 1) = ⟨#[hexL k.val]⟩ := by decide +kernel

set_option maxRecDepth 100000 in
set_option maxHeartbeats 3200000 in
theorem quoted_any (s : ByteArray) (w : World) (hs : s.size ≤ 1000000) : Calls Tryz.prog 99 #[.string s] w (Told 0 (strT s) w) := by
  unfold Told
  go_enter Tryz.func99, Tryz.ntmps99
  go_wp2_with fail
  go_loopg [4, 5] s.size (fun gk s4 s5 wr => ∃ i : Nat, s4 = .string (qText s i) ∧ s5 = .int .i64 i ∧ i ≤ s.size ∧ gk = s.size - i ∧ Hid (Below w.heap.size w wr))
  case atStart => exact ⟨0, by rw [qText_zero], rfl, Nat.zero_le _, rfl, Lib.hid (Below.refl _ w)⟩
  case round =>
    obtain ⟨i, rfl, rfl, hi, rfl, HB⟩ := hrel
    have hqs := qText_size s i
    by_cases hlt : i < s.size
    · have hj : (i : Int) < (s.size : Int) := by omega
      have HQ := Lib.hid (qText_succ hlt)
      have hc6 : ¬ 9223372036854775807 < (qText s i).size + 6 := by omega
      have hc2 : ¬ 9223372036854775807 < (qText s i).size + 2 := by omega
      have hc1 : ¬ 9223372036854775807 < (qText s i).size + 1 := by omega
      clear hi hqs
      --ARMS
      by_cases h34 : s[i].toNat = 34
      · have hel : encB s[i] = [92, 34] := by rw [show s[i] = 34 from UInt8.toNat_inj.1 h34]; rfl
        have HQ2 := Lib.hid (show qText s (i + 1) = qText s i ++ ⟨#[92, 34]⟩ from by rw [HQ.out, hel])
        have he : Utf8.encode 34 = ⟨#[34]⟩ := enc_ascii 34 (by decide)
        have hcc : ¬ 9223372036854775807 < (⟨#[92]⟩ : ByteArray).size + (⟨#[34]⟩ : ByteArray).size := by decide
        have hcd : ¬ 9223372036854775807 < (qText s i).size + ((⟨#[92]⟩ : ByteArray) ++ (⟨#[34]⟩ : ByteArray)).size := hc2
        clear hel HQ hc6 hc1 hc2
        go_wp2_with fail
        go_roundg (s.size - (i + 1))
        case measure => omega
        case rel => exact ⟨i + 1, by rw [HQ2.out] <;> rfl, by go_num, by omega, rfl, HB⟩
      have e34 : ((s[i].toNat : Int) == 34) = false := by simp; omega
      by_cases h92 : s[i].toNat = 92
      · have hel : encB s[i] = [92, 92] := by rw [show s[i] = 92 from UInt8.toNat_inj.1 h92]; rfl
        have HQ2 := Lib.hid (show qText s (i + 1) = qText s i ++ ⟨#[92, 92]⟩ from by rw [HQ.out, hel])
        have he : Utf8.encode 92 = ⟨#[92]⟩ := enc_ascii 92 (by decide)
        have hcc : ¬ 9223372036854775807 < (⟨#[92]⟩ : ByteArray).size + (⟨#[92]⟩ : ByteArray).size := by decide
        have hcd : ¬ 9223372036854775807 < (qText s i).size + ((⟨#[92]⟩ : ByteArray) ++ (⟨#[92]⟩ : ByteArray)).size := hc2
        clear hel HQ hc6 hc1 hc2
        go_wp2_with fail
        go_roundg (s.size - (i + 1))
        case measure => omega
        case rel => exact ⟨i + 1, by rw [HQ2.out] <;> rfl, by go_num, by omega, rfl, HB⟩
      have e92 : ((s[i].toNat : Int) == 92) = false := by simp; omega
      by_cases h10 : s[i].toNat = 10
      · have hel : encB s[i] = [92, 110] := by rw [show s[i] = 10 from UInt8.toNat_inj.1 h10]; rfl
        have HQ2 := Lib.hid (show qText s (i + 1) = qText s i ++ ⟨#[92, 110]⟩ from by rw [HQ.out, hel])
        have hcd : ¬ 9223372036854775807 < (qText s i).size + (⟨#[92, 110]⟩ : ByteArray).size := hc2
        clear hel HQ hc6 hc1 hc2
        go_wp2_with fail
        go_roundg (s.size - (i + 1))
        case measure => omega
        case rel => exact ⟨i + 1, by rw [HQ2.out] <;> rfl, by go_num, by omega, rfl, HB⟩
      have e10 : ((s[i].toNat : Int) == 10) = false := by simp; omega
      by_cases h9 : s[i].toNat = 9
      · have hel : encB s[i] = [92, 116] := by rw [show s[i] = 9 from UInt8.toNat_inj.1 h9]; rfl
        have HQ2 := Lib.hid (show qText s (i + 1) = qText s i ++ ⟨#[92, 116]⟩ from by rw [HQ.out, hel])
        have hcd : ¬ 9223372036854775807 < (qText s i).size + (⟨#[92, 116]⟩ : ByteArray).size := hc2
        clear hel HQ hc6 hc1 hc2
        go_wp2_with fail
        go_roundg (s.size - (i + 1))
        case measure => omega
        case rel => exact ⟨i + 1, by rw [HQ2.out] <;> rfl, by go_num, by omega, rfl, HB⟩
      have e9 : ((s[i].toNat : Int) == 9) = false := by simp; omega
      by_cases h13 : s[i].toNat = 13
      · have hel : encB s[i] = [92, 114] := by rw [show s[i] = 13 from UInt8.toNat_inj.1 h13]; rfl
        have HQ2 := Lib.hid (show qText s (i + 1) = qText s i ++ ⟨#[92, 114]⟩ from by rw [HQ.out, hel])
        have hcd : ¬ 9223372036854775807 < (qText s i).size + (⟨#[92, 114]⟩ : ByteArray).size := hc2
        clear hel HQ hc6 hc1 hc2
        go_wp2_with fail
        go_roundg (s.size - (i + 1))
        case measure => omega
        case rel => exact ⟨i + 1, by rw [HQ2.out] <;> rfl, by go_num, by omega, rfl, HB⟩
      have e13 : ((s[i].toNat : Int) == 13) = false := by simp; omega
      by_cases h8 : s[i].toNat = 8
      · have hel : encB s[i] = [92, 98] := by rw [show s[i] = 8 from UInt8.toNat_inj.1 h8]; rfl
        have HQ2 := Lib.hid (show qText s (i + 1) = qText s i ++ ⟨#[92, 98]⟩ from by rw [HQ.out, hel])
        have hcd : ¬ 9223372036854775807 < (qText s i).size + (⟨#[92, 98]⟩ : ByteArray).size := hc2
        clear hel HQ hc6 hc1 hc2
        go_wp2_with fail
        go_roundg (s.size - (i + 1))
        case measure => omega
        case rel => exact ⟨i + 1, by rw [HQ2.out] <;> rfl, by go_num, by omega, rfl, HB⟩
      have e8 : ((s[i].toNat : Int) == 8) = false := by simp; omega
      by_cases h12 : s[i].toNat = 12
      · have hel : encB s[i] = [92, 102] := by rw [show s[i] = 12 from UInt8.toNat_inj.1 h12]; rfl
        have HQ2 := Lib.hid (show qText s (i + 1) = qText s i ++ ⟨#[92, 102]⟩ from by rw [HQ.out, hel])
        have hcd : ¬ 9223372036854775807 < (qText s i).size + (⟨#[92, 102]⟩ : ByteArray).size := hc2
        clear hel HQ hc6 hc1 hc2
        go_wp2_with fail
        go_roundg (s.size - (i + 1))
        case measure => omega
        case rel => exact ⟨i + 1, by rw [HQ2.out] <;> rfl, by go_num, by omega, rfl, HB⟩
      have e12 : ((s[i].toNat : Int) == 12) = false := by simp; omega
      by_cases h32 : s[i].toNat < 32
      · have h32' : (s[i].toNat : Int) < 32 := by omega
        have hel := encB_ctl s[i] (.inl h32) h34 h92 h8 h12 h10 h13 h9
        have HQ2 := Lib.hid (show qText s (i + 1) = qText s i ++ (⟨#[92, 117, 48, 48]⟩ ++ ⟨#[hexL (s[i].toNat / 16)]⟩ ++ ⟨#[hexL (s[i].toNat % 16)]⟩) from by rw [HQ.out, hel]; rfl)
        clear hel HQ hc1 hc2 h34 h92 h8 h12 h10 h13 h9
        generalize hm : s[i].toNat = m at *
        go_wp2_with fail
        have hx1 := hex_cut ⟨m / 16, by omega⟩
        have hx2 := hex_cut ⟨m % 16, by omega⟩
        have HX := Lib.hid (And.intro hx1 hx2)
        clear hx1 hx2
        go_quiet (fail)
        go_wp2_with fail
        have HB2 := Lib.hid (HB.out.trans (show Below w.heap.size wr (wr.drewN nq) from ⟨rfl, rfl, rfl, Nat.le_refl _, fun _ _ => rfl⟩))
        go_roundg (s.size - (i + 1))
        case measure => omega
        case rel => exact ⟨i + 1, by rw [HQ2.out, HX.out.1, HX.out.2], by go_num, by omega, rfl, HB2⟩
      have h32' : ¬ (s[i].toNat : Int) < 32 := by omega
      by_cases h127 : s[i].toNat = 127
      · go_wp2_with fail
        go_ret2
        exact ⟨_, _, rfl, .inr ⟨rfl, by decide⟩, HB.out⟩
      have e127 : ((s[i].toNat : Int) == 127) = false := by simp; omega
      have hel := encB_plain (c := s[i]) ⟨by omega, h127, h34, h92⟩
      have hex := ba_one s i hlt
      have HQ2 := Lib.hid (show qText s (i + 1) = qText s i ++ ⟨#[s[i]]⟩ from by rw [HQ.out, hel])
      have hcd : ¬ 9223372036854775807 < (qText s i).size + (⟨#[s[i]]⟩ : ByteArray).size := hc1
      clear hel HQ hc6 hc1 hc2
      go_wp2_with fail
      go_roundg (s.size - (i + 1))
      case measure => omega
      case rel => exact ⟨i + 1, by rw [HQ2.out] <;> rfl, by go_num, by omega, rfl, HB⟩
      --ARMSEND
    · obtain rfl : i = s.size := by omega
      have HD := Lib.hid (qText_done s)
      have hc1 : ¬ 9223372036854775807 < (qText s s.size).size + (⟨#[34]⟩ : ByteArray).size := by
        have : (⟨#[34]⟩ : ByteArray).size = 1 := rfl
        omega
      clear hqs
      go_wp2_with fail
      go_ret2
      exact ⟨_, _, rfl, .inl ⟨rfl, HD.out⟩, HB.out⟩
end Go.Proofs.YtjpcdbopioblaaaGreatDoor
