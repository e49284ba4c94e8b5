/- The thin package's way back, whole: fromGo at every value. -/
import Derived.Test.YtjpcdbopioblaaaDoorFromGoM
namespace Go.Proofs.YtjpcdbopioblaaaDoor
open Go.RowKit

theorem RV.bytes_le {l : List RV} {j : Nat} (h : j < l.length) : l[j].bytes ≤ RV.bytesL l := by
  induction l generalizing j with
  | nil => simp at h
  | cons x xs ih =>
    cases j with
    | zero => simp [RV.bytesL]
    | succ j => simp only [List.getElem_cons_succ, RV.bytesL]; have := ih (j := j) (by simpa using h); omega
theorem keysSize_mem {ks : List ByteArray} {k : ByteArray} (h : k ∈ ks) : k.size ≤ keysSize ks := by
  induction ks with
  | nil => cases h
  | cons x xs ih =>
    unfold keysSize
    rcases List.mem_cons.1 h with rfl | h
    · omega
    · have := ih h; omega

/-- A value that came back, by its cells' kinds. -/
theorem RV.Here.shape {base : Nat} {w : World} {v : Value} {y : RV} (h : y.Here base w v) : ∃ k h t al n cl ak m ck av q cv, v = .agg #[.int .i64 k, .int .i64 h, .string t, .slice al n cl, .slice ak m ck, .slice av q cv] := by
  have hr' := h.rep
  obtain ⟨k, h, t, l, ks, vs⟩ := y
  unfold RV.Rep at hr'
  obtain ⟨al, cl, ak, ck, av, cv, e, _⟩ := hr'
  exact ⟨_, _, _, _, _, _, _, _, _, _, _, _, e⟩

set_option maxRecDepth 100000 in
set_option maxHeartbeats 1600000 in
/-- fromGo at a list or a map: what listFromGo, mapFromGo give. -/
theorem fromGo_list (y : RV) (a : Option Addr) (n c : Nat) (w : World) (hL : ∀ w', Below w.heap.size w w' → Calls Tryd.prog 87 #[.slice a n c] w' (FromPost y w')) :
    Calls Tryd.prog 74 #[.iface 85 (.slice a n c)] w (FromPost y w) := by
  have HL := Lib.hid (fun o => hL _ ((Below.refl _ _).alloc (Nat.le_refl _) o))
  clear hL
  have HB := Lib.hid (fun o => (Below.refl w.heap.size w).alloc (Nat.le_refl _) o)
  have a_bool := as_list_bool
  have a_int := as_list_int
  have a_float := as_list_float
  have a_str := as_list_str
  have a_list := as_list_list
  unfold FromPost
  go_enter Tryd.func74, Tryd.ntmps74
  go_wp2_with fail
  refine (HL.out _).mono ?_
  rintro e w1 ⟨v, rfl, hr, hb1⟩
  have HB1 := Lib.hid ((HB.out _).trans (hb1.mono (by simp)))
  have HR := Lib.hid hr
  obtain ⟨k, h, t, al, n, cl, ak, m, ck, av, q, cv, rfl⟩ := hr.shape
  clear hr
  obtain ⟨hc1', hf1'⟩ := bcell hb1
  have hz1 := hb1.size
  simp at hz1
  clear hb1
  have hy1 : w.heap.size < w1.heap.size := by omega
  have hy2 : w.heap.size ≠ w1.heap.size := by omega
  have hc1 := fun o => hc1' w.heap.size o (by simp)
  have hf1 := fun o => hf1' w.heap.size o (by simp)
  clear hc1' hf1'
  go_wp2_with fail
  refine bodyPost_ret (v := .tuple #[.agg #[.int .i64 k, .int .i64 h, .string t, .slice al n cl, .slice ak m ck, .slice av q cv], .bool true]) (by rw [results_cell_tmp rfl]; go_simp) rfl ?_
  have fin : ∀ wx, w1.grownBy wx (some w.heap.size) → (∃ r, Ending.returned (.tuple #[.agg #[.int .i64 k, .int .i64 h, .string t, .slice al n cl, .slice ak m ck, .slice av q cv], .bool true]) = Ending.returned (.tuple #[r, .bool true]) ∧ RV.Here w.heap.size wx r y ∧ Below w.heap.size w wx) := fun wx hgb => by
    refine ⟨_, rfl, fun wy hx => HR.out wy fun kk hb hk => ?_, below_gb HB1.out hgb HB1.out.size (Nat.le_refl _)⟩
    have hb' : w.heap.size + 1 ≤ kk := by simpa using hb
    exact (hx kk (by omega) (Nat.lt_of_lt_of_le hk hgb.size)).trans (hgb.block kk hk (fun e => by injection e; omega))
  with_reducible refine fin _ ?_
  repeat' (with_reducible first | exact World.grownBy.refl _ _ | refine gb_alloc ?_ _ | refine gb_set ?_ _ _)

set_option maxRecDepth 100000 in
set_option maxHeartbeats 1600000 in
theorem fromGo_map (y : RV) (r : Nat) (w : World) (hL : ∀ w', Below w.heap.size w w' → Calls Tryd.prog 88 #[.map (some r)] w' (FromPost y w')) :
    Calls Tryd.prog 74 #[.iface 94 (.map (some r))] w (FromPost y w) := by
  have HL := Lib.hid (fun o => hL _ ((Below.refl _ _).alloc (Nat.le_refl _) o))
  clear hL
  have HB := Lib.hid (fun o => (Below.refl w.heap.size w).alloc (Nat.le_refl _) o)
  have a_bool := as_map_bool
  have a_int := as_map_int
  have a_float := as_map_float
  have a_str := as_map_str
  have a_list := as_map_list
  have a_map := as_map_map
  unfold FromPost
  go_enter Tryd.func74, Tryd.ntmps74
  go_wp2_with fail
  refine (HL.out _).mono ?_
  rintro e w1 ⟨v, rfl, hr, hb1⟩
  have HB1 := Lib.hid ((HB.out _).trans (hb1.mono (by simp)))
  have HR := Lib.hid hr
  obtain ⟨k, h, t, al, n, cl, ak, m, ck, av, q, cv, rfl⟩ := hr.shape
  clear hr
  obtain ⟨hc1', hf1'⟩ := bcell hb1
  have hz1 := hb1.size
  simp at hz1
  clear hb1
  have hy1 : w.heap.size < w1.heap.size := by omega
  have hy2 : w.heap.size ≠ w1.heap.size := by omega
  have hc1 := fun o => hc1' w.heap.size o (by simp)
  have hf1 := fun o => hf1' w.heap.size o (by simp)
  clear hc1' hf1'
  go_wp2_with fail
  refine bodyPost_ret (v := .tuple #[.agg #[.int .i64 k, .int .i64 h, .string t, .slice al n cl, .slice ak m ck, .slice av q cv], .bool true]) (by rw [results_cell_tmp rfl]; go_simp) rfl ?_
  have fin : ∀ wx, w1.grownBy wx (some w.heap.size) → (∃ r, Ending.returned (.tuple #[.agg #[.int .i64 k, .int .i64 h, .string t, .slice al n cl, .slice ak m ck, .slice av q cv], .bool true]) = Ending.returned (.tuple #[r, .bool true]) ∧ RV.Here w.heap.size wx r y ∧ Below w.heap.size w wx) := fun wx hgb => by
    refine ⟨_, rfl, fun wy hx => HR.out wy fun kk hb hk => ?_, below_gb HB1.out hgb HB1.out.size (Nat.le_refl _)⟩
    have hb' : w.heap.size + 1 ≤ kk := by simpa using hb
    exact (hx kk (by omega) (Nat.lt_of_lt_of_le hk hgb.size)).trans (hgb.block kk hk (fun e => by injection e; omega))
  with_reducible refine fin _ ?_
  repeat' (with_reducible first | exact World.grownBy.refl _ _ | refine gb_alloc ?_ _ | refine gb_set ?_ _ _)

/-- The parts of a value whose sizes are bounded are so. -/
theorem RV.Sized.part {k h : Int} {t : ByteArray} {l : List RV} {ks : List ByteArray} {vs : List RV} (hs : (RV.mk k h t l ks vs).Sized) :
    (∀ (j : Nat) (h : j < l.length), l[j].Sized) ∧ (∀ (j : Nat) (h : j < vs.length), vs[j].Sized) ∧ l.length ≤ 100000 ∧ vs.length ≤ 100000 ∧ ∀ k ∈ ks, k.size ≤ 100000 := by
  obtain ⟨h1, h2⟩ := hs
  unfold RV.nodes at h1
  unfold RV.bytes at h2
  refine ⟨fun j hj => ?_, fun j hj => ?_, ?_, ?_, fun k hk => ?_⟩
  · have a := RV.nodes_le hj
    have b := RV.bytes_le hj
    exact ⟨by omega, by omega⟩
  · have a := RV.nodes_le hj
    have b := RV.bytes_le hj
    exact ⟨by omega, by omega⟩
  · have := RV.len_le l; omega
  · have := RV.len_le vs; omega
  · have := keysSize_mem hk; omega

theorem fromGo_all : ∀ n, FromIH n := by
  intro n
  induction n with
  | zero => intro y x w base hn; have := y.nodes_pos; omega
  | succ n ih =>
    intro y x w base hn hg hs hy
    obtain ⟨k, h, t, l, ks, vs⟩ := y
    obtain ⟨p1, p2, p3, p4, p5⟩ := hs.part
    obtain ⟨r3, r4, r5, r6, hk0, hk6, hh0, hh1, gl, gv⟩ := hg.rest
    have hn' : RV.nodesL l ≤ n ∧ RV.nodesL vs ≤ n := by unfold RV.nodes at hn; omega
    by_cases k5 : k = 5
    · subst k5
      obtain ⟨e6, e7⟩ := r6 (by decide)
      have e1 := r3 (by decide)
      have e2 := r4 (by decide)
      subst e1 e2 e6 e7
      unfold RV.Go at hy
      rcases hy with ⟨e, _⟩ | ⟨e, _⟩ | ⟨e, _⟩ | ⟨e, _⟩ | ⟨e, _⟩ | ⟨_, a, cap, rfl, hl⟩ | ⟨e, _⟩
      · cases e
      · cases e
      · cases e
      · cases e
      · cases e
      · exact fromGo_list _ a l.length cap w fun w' hb => listFromGo_any n ih l a cap w' base hn'.1 gl p1 p3 (RV.GoL.same (SameFrom.of_below hb base) hl)
      · cases e
    · by_cases k6 : k = 6
      · subst k6
        have e5 := r5 (by decide)
        have e1 := r3 (by decide)
        have e2 := r4 (by decide)
        subst e1 e2 e5
        have hlen : ks.length = vs.length := by unfold RV.Good at hg; exact hg.2.2.2.2.2.2.1
        have hup : KeysUp ks := by unfold RV.Good at hg; exact hg.2.2.2.2.2.2.2.2.2.2.2.2.2.1
        unfold RV.Go at hy
        rcases hy with ⟨e, _⟩ | ⟨e, _⟩ | ⟨e, _⟩ | ⟨e, _⟩ | ⟨e, _⟩ | ⟨e, _⟩ | ⟨_, r, m, xs, rfl, hb, hm, hmap, hxs, hv⟩
        · cases e
        · cases e
        · cases e
        · cases e
        · cases e
        · cases e
        · exact fromGo_map _ r w fun w' hb' => mapFromGo_any n ih ks vs r m xs w' base hn'.2 gv p2 (by omega) hlen p5 hup ((SameFrom.of_below hb' base).map hb hmap) hxs (RV.GoV.same (SameFrom.of_below hb' base) hv)
      · exact fromGo_flat _ x w base hg hs hy fun k' h' t' l' ks' vs' e => by injection e with e1; subst e1; exact ⟨k5, k6⟩
/-- The way back of every right value. -/
theorem fromGo_any (y : RV) (x : Value) (w : World) (base : Nat) (hg : y.Good) (hs : y.Sized) (hy : y.Go w base x) : Calls Tryd.prog 74 #[x] w (FromPost y w) :=
  fromGo_all y.nodes y x w base (Nat.le_refl _) hg hs hy
theorem result_all (y : RV) (x : Value) (w : World) (base : Nat) (hg : y.Good) (hs : y.Sized) (hy : y.Go w base x) : Calls Tryd.prog 46 #[x] w (ResPost y w) :=
  result_any y x w base hy fun w' hb => fromGo_any y x w' base hg hs (RV.Go.same (SameFrom.of_below hb base) hy)
end Go.Proofs.YtjpcdbopioblaaaDoor
