/- 'down' and 'up' of a decimal walked. -/
import Derived.Test.YtjpcdbopioblaaaDecText
import Derived.Deep.RegionHeld3
import Derived.Deep.AppendLies
namespace Go.Proofs.Ytjpcdbopioblaaa
open Go.RowKit

theorem lt_of_block' {w : World} {k : Nat} {x : Obj} (h : w.heap[k]? = some x) : k < w.heap.size := (Array.getElem?_eq_some_iff.1 h).1
/-- 'append([]byte{}, s...)' at a step of a region that draws its order: a row of the call's own with these digits. -/
theorem step_app0 {ops : Array Oper} {o : Oper} {a : Act} {K : Act → World → Prop} {Q : Exit → Act → World → Prop} {Ex : Prop} {w : World} (hgd : o.guard = none) (s x : Operand)
    (ho : o.op = .call { callee := .builtin .append, args := #[s, x], argTypes := #[25, 25] }) (E g m c : Nat) (ds : List Nat)
    (hs : a.eval s = .slice (some ⟨E, 0, none⟩) 0 0) (hx : a.eval x = .slice (some ⟨g, 0, none⟩) m c) (hE : w.heap[E]? = some (.cells #[] 5 (0, 0))) (hm : m = ds.length) (hds : ∀ j (h : j < ds.length), w.cell? ⟨g, j, none⟩ = some (.int .u8 (ds[j] : Nat))) (hlen : ds.length ≤ 100000)
    (h : ∀ a' c' w', w'.ownsRow E 5 1 (.slice a' m c') m (dgCells ds) → w.grownBy w' (some E) → K (a.put o.dst (.slice a' m c')) w') : if Region.wanted o (yielded ops a.tmps) = true then Oper.wp Try.prog o a w K Q else Ex := by
  subst hm
  have hw : Region.wanted o (yielded ops a.tmps) = true := by simp [Region.wanted, hgd]
  rw [if_pos hw]
  obtain ⟨ti, hti, hz0, hz1, hz2⟩ := byteInfo
  have hown : w.ownsRow E 5 1 (.slice (some ⟨E, 0, none⟩) 0 0) 0 [] := ⟨rfl, .inr ⟨E, 0, #[], rfl, Nat.le_refl _, hE, Nat.le_refl _, by unfold maxLen; omega, rfl, rfl⟩⟩
  obtain ⟨v', w', hr, h2, h3, h4⟩ := run_append_own (P := Try.prog) w E 25 o.type 5 ti (.int .u8 0) 1 1 Try.underlying25 hti hz0 hz1 hz2 rfl (by decide) _ 0 [] hown ⟨g, 0, none⟩ ds.length c (dgCells ds) (by simp [dgCells])
    (fun j u hj => by
      have e : (⟨g, 0, none⟩ : Addr).add j = ⟨g, j, none⟩ := by unfold Addr.add; split <;> simp_all
      have hj2 : j < ds.length := by have := (List.getElem?_eq_some_iff.1 hj).1; simpa [dgCells] using this
      rw [e, hds j hj2]
      simp [dgCells, List.getElem?_eq_getElem hj2] at hj
      rw [← hj]) (fun u hu => by simp only [dgCells, List.mem_map] at hu; obtain ⟨_, _, rfl⟩ := hu; rfl) (by unfold maxLen; omega) (by omega) (Nat.le_of_lt (lt_of_block hE))
  rw [Nat.zero_add, List.nil_append] at h2
  obtain ⟨a', c', rfl⟩ := own_shape (World.ownsRowF_of h2)
  unfold Oper.wp execOp
  simp only [ho, resolve, invoke, builtin, Sem.run_bind, Sem.run_pure, Result.andThen_ok, List.map_toArray, List.map_cons, List.map_nil, hs, hx, hr]
  exact h _ _ _ h2 h3

theorem hb_keep {w : World} {k : Nat} {x o : Obj} (h : w.heap[k]? = some x) : (w.alloc o).heap[k]? = some x := (heap_alloc_old w o (lt_of_block' h)).trans h
theorem hp_drew (w : World) : w.drew.heap = w.heap := rfl
theorem hp_alloc (w : World) (o : Obj) : (w.alloc o).heap = w.heap.push o := rfl
theorem hb_new {w : World} {k : Nat} {o : Obj} (h : k = w.heap.size) : (w.alloc o).heap[k]? = some o := by subst h; exact heap_alloc_new w o
theorem heap2_0 (w : World) (A B : Obj) : ((w.alloc A).alloc B).heap[w.heap.size]? = some A := (heap_alloc_old _ B (by simp)).trans (heap_alloc_new w A)
theorem heap2_1 (w : World) (A B : Obj) : ((w.alloc A).alloc B).heap[w.heap.size + 1]? = some B := hb_new (by simp)
theorem hb_drew {w : World} {k : Nat} {x : Obj} (h : w.heap[k]? = some x) : w.drew.heap[k]? = some x := h
theorem far_bind {W w' : World} {E D : Nat} {x y : Value} {G : Prop} (hg : W.grownBy w' (some E)) (hE : W.heap[E]? = some (.cells #[] 5 (0, 0))) (hD : W.heap[D]? = some (.cells #[x, y] 62 (0, 0))) (k : w'.heap[D]? = some (.cells #[x, y] 62 (0, 0)) → w'.cell? ⟨D, 0, none⟩ = some x → w'.cell? ⟨D, 1, none⟩ = some y → w'.frozen? ⟨D, 0, none⟩ = false → w'.frozen? ⟨D, 1, none⟩ = false → G) : G := by
  have hne : D ≠ E := by
    rintro rfl
    rw [hE] at hD
    injection hD with hD
    injection hD with _ hD
    exact absurd hD (by decide)
  have h := (hg.block D (lt_of_block' hD) (fun e => hne (by injection e))).trans hD
  exact k h (by simp [World.cell?, h]) (by simp [World.cell?, h]) (by simp [World.frozen?, h]) (by simp [World.frozen?, h])
theorem take_cells {w W : World} {g : Nat} {ds : List Nat} (n : Nat) (h : ∀ j (hj : j < ds.length), w.cell? ⟨g, j, none⟩ = some (.int .u8 (ds[j] : Nat))) (hb : Below w.heap.size w W) : ∀ j (hj : j < (ds.take n).length), W.cell? ⟨g, j, none⟩ = some (.int .u8 ((ds.take n)[j] : Nat)) := by
  intro j hj
  have hj2 : j < ds.length := by rw [List.length_take] at hj; omega
  have h1 := h j hj2
  have hlt : g < w.heap.size := by
    refine Classical.byContradiction fun hh => ?_
    simp [World.cell?, Array.getElem?_eq_none (Nat.le_of_not_lt hh)] at h1
  rw [cell_of_below hb hlt, h1]
  simp
theorem dec_build {W : World} {D E n c : Nat} {a : Option Addr} {ds : List Nat} {dp : Int} {x y : Value} (hd : W.heap[D]? = some (.cells #[x, y] 62 (0, 0))) (ho : W.ownsRowF E 5 1 (.slice a n c) n (dgCells ds)) (hn : n = ds.length) : DecAt ((W.setCell ⟨D, 0, none⟩ (.slice a n c)).setCell ⟨D, 1, none⟩ (.int .i64 dp)) D ds dp := by
  subst hn
  have hr := drow_of ho
  have hb1 := Lib.heap_setCell_same hd (i := 0) (.slice a ds.length c)
  have hb2 := Lib.heap_setCell_same hb1 (i := 1) (.int .i64 dp)
  obtain ⟨a0, c0, hv, hle, hcell⟩ := hr
  injection hv with e1 e2 e3
  subst e1 e3
  refine ⟨.slice a ds.length c, by simpa using hb2, a, c, rfl, hle, fun j hj => ?_⟩
  obtain ⟨g, rfl, hc⟩ := hcell j hj
  refine ⟨g, rfl, ?_⟩
  have hne : g ≠ D := by
    rintro rfl
    obtain ⟨-, ⟨h, h0⟩ | ⟨g', cap, cur, fz, h, -, hg, -⟩⟩ := ho
    · simp at h
    · injection h with h
      injection h with h
      injection h with h
      subst h
      rw [hd] at hg
      injection hg with hg
      injection hg with _ hg
      exact absurd hg (by decide)
  rw [World.cell?_setCell_other _ _ _ _ (by intro e; injection e with e; exact hne e.symm), World.cell?_setCell_other _ _ _ _ (by intro e; injection e with e; exact hne e.symm)]
  exact hc

theorem dec_new {W : World} {E n c : Nat} {a : Option Addr} {ds : List Nat} {dp : Int} (ho : W.ownsRowF E 5 1 (.slice a n c) n (dgCells ds)) (hn : n = ds.length) : DecAt (W.alloc (.cells #[.slice a n c, .int .i64 dp] 62)) W.heap.size ds dp := by
  subst hn
  exact ⟨_, heap_alloc_new W _, (drow_of ho).kept ((Below.refl _ _).alloc (Nat.le_refl _) _)⟩
theorem below_new {w W : World} {o : Obj} (h : Below w.heap.size w W) : Below w.heap.size w (W.alloc o) := h.alloc h.size o
theorem below_set2 {w W : World} {D : Nat} {x y : Value} (h : Below w.heap.size w W) (hD : w.heap.size ≤ D) : Below w.heap.size w ((W.setCell ⟨D, 0, none⟩ x).setCell ⟨D, 1, none⟩ y) := (h.setCell (p := ⟨D, 0, none⟩) hD x).setCell (p := ⟨D, 1, none⟩) hD y
/-- What 'down' gives. -/
def DownPost (ds : List Nat) (dp n : Nat) (w : World) (e : Ending) (w' : World) : Prop := ∃ D cur r, e = .returned (.pointer (some ⟨D, 0, none⟩)) ∧ ds.take n = cur ++ List.replicate r 0 ∧ DecAt w' D cur (if cur = [] then 0 else (dp : Int)) ∧ Below w.heap.size w w' ∧ (cur ≠ [] → cur.getD (cur.length - 1) 0 ≠ 0) ∧ w.heap.size ≤ D
theorem down_fin {w W W1 w4 : World} {D n dp r : Nat} {ds cur : List Nat} (_ : Below w.heap.size w W) (hcur : ds.take n = cur ++ List.replicate r 0) (hlast : cur ≠ [] → cur.getD (cur.length - 1) 0 ≠ 0) (hdec : DecAt w4 D cur (if cur = [] then 0 else (dp : Int))) (hg : W1.grownBy w4 (some D)) (hB : Below w.heap.size w W1) (hD : w.heap.size ≤ D) : DownPost ds dp n w (.returned (.pointer (some ⟨D, 0, none⟩))) w4 :=
  ⟨D, cur, r, rfl, hcur, hdec, below_gb hB hg hB.size hD, hlast, hD⟩

set_option maxRecDepth 100000 in
set_option maxHeartbeats 3200000 in
theorem down_any (b : Nat) (ds : List Nat) (dp n : Nat) (w : World) (h : DecAt w b ds dp) (hn : n < ds.length) (hl : ds.length ≤ 1000) :
    Calls Try.prog 30 #[.pointer (some ⟨b, 0, none⟩), .int .i64 n] w (DownPost ds dp n w) := by
  have H := Lib.hid h
  obtain ⟨a, c, c0, c1, hcell⟩ := h.open
  have hcap := h.cap c0
  obtain ⟨g, rfl, hg0⟩ := hcell 0 (by omega)
  have HC : Hid (∀ j (hj : j < ds.length), w.cell? ⟨g, j, none⟩ = some (.int .u8 (ds[j] : Nat))) := Lib.hid (fun j hj => by
    obtain ⟨g', hg', hc⟩ := hcell j hj
    injection hg' with hg'
    injection hg' with hg'
    subst hg'
    exact hc)
  clear h hcell hg0
  have hj : (n : Int) < (ds.length : Int) := by omega
  have hj2 : (0 : Int) ≤ (n : Int) := by omega
  have hj3 : (n : Int) ≤ (c : Int) := by omega
  have k0 := World.new_ne w _ c0
  have k1 := World.new_ne w _ c1
  go_enter Try.func30, Try.ntmps30
  go_wp2_with fail
  have hbl' : b < w.heap.size := H.out.lt
  have kb0 : ¬ b = w.heap.size := by omega
  have kb1 : ¬ b = w.heap.size + 1 := by omega
  have kb2 : ¬ w.heap.size = b := by omega
  have kb3 : ¬ w.heap.size + 1 = b := by omega
  have hnt : Hid (n = (ds.take n).length) := Lib.hid (by simp; omega)
  have hnl : (ds.take n).length ≤ 100000 := by simp; omega
  go_region_held3 (fun W : World => W.cell? ⟨b, 0, none⟩ = some (.slice (some ⟨g, 0, none⟩) ds.length c) ∧ W.cell? ⟨b, 1, none⟩ = some (.int .i64 dp)) (go_keep) ((refine step_app0 (by rfl) _ _ (by rfl) _ g n c (ds.take n) (by rfl) (by rfl) (by simp only [hp_drew, hp_alloc, Array.getElem?_push, Array.size_push]; simp) hnt.out (take_cells n HC.out (by repeat (first | exact Below.refl _ _ | refine Below.drew ?_ | refine Below.alloc ?_ (by simp <;> omega) _))) hnl ?_; intro a' c' w' ho hg; have HR := Lib.hid ho; have HO := Lib.hid (World.ownsRowF_of ho); have hB := (show Below w.heap.size w _ from by repeat (first | exact Below.refl _ _ | refine Below.drew ?_ | refine Below.alloc ?_ (by simp <;> omega) _)).grown hg (by simp <;> omega) (fun k hk => by simp at hk; omega); have e0 := (cell_of_below (j := 0) hB hbl').trans c0; have e1 := (cell_of_below (j := 1) hB hbl').trans c1; have HB := Lib.hid hB; (first | (refine far_bind (x := .slice none 0 0) (y := .int .i64 0) (D := w.heap.size) hg ?_ ?_ ?_; (focus (first | exact heap2_0 _ _ _ | exact heap2_1 _ _ _)); (focus (first | exact heap2_0 _ _ _ | exact heap2_1 _ _ _)); intro hD d0 d1 d2 d3; have HD := Lib.hid hD; clear hD) | (refine far_bind (x := .slice none 0 0) (y := .int .i64 0) (D := w.heap.size + 1) hg ?_ ?_ ?_; (focus (first | exact heap2_0 _ _ _ | exact heap2_1 _ _ _)); (focus (first | exact heap2_0 _ _ _ | exact heap2_1 _ _ _)); intro hD d0 d1 d2 d3; have HD := Lib.hid hD; clear hD) | skip); clear ho hg hB))
  all_goals (
    clear k0 k1 kb0 kb1 kb2 kb3 e0 e1
    go_wp2_with fail
    refine (trim_any _ (ds.take n) (dp : Int) _ (by first | exact dec_new HO.out hnt.out | exact dec_build HD.out HO.out hnt.out) hnl).mono ?_
    rintro e w4 ⟨cur, r, hcur, hlast, rfl, hdec, hg4⟩
    have HE := Lib.hid (down_fin HB.out hcur hlast hdec hg4 (by first | exact below_new HB.out | exact below_set2 HB.out (by omega)) (by first | omega | exact HB.out.size))
    clear hcur hlast hdec hg4
    go_wp2_with fail
    go_ret
    exact HE.out)
end Go.Proofs.Ytjpcdbopioblaaa
