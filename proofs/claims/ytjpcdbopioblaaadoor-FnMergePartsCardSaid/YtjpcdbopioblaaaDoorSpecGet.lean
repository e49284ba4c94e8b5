/- The reference's place, Get and Has walked. -/
import Derived.Test.YtjpcdbopioblaaaDoorMergePlain
import Derived.Test.YtjpcdbopioblaaaDoorFromGoAll
import Derived.BigQuiet
import Derived.Deep.QuietTactic
namespace Go.Proofs.YtjpcdbopioblaaaDoor
open Go.RowKit

theorem place_out {ks : List ByteArray} {key : ByteArray} {i : Nat} (hu : KeysUp ks) (hlo : ∀ j (h : j < ks.length), j < i → Op.bytesLess ks[j].toList key.toList = true) (hhi : ∀ h : i < ks.length, Op.bytesLess ks[i].toList key.toList = false ∧ ks[i] ≠ key) : key ∉ ks := fun hk => by
  obtain ⟨j, hj, rfl⟩ := List.getElem_of_mem hk
  rcases Nat.lt_trichotomy j i with h | h | h
  · have := hlo j hj h
    rw [less_irrefl] at this
    cases this
  · subst h
    exact (hhi hj).2 rfl
  · have h1 := hu.lt' h hj
    rw [(hhi (by omega)).1] at h1
    cases h1
theorem below_drewB {B : Nat} {w w' : World} (h : Below B w w') (n : Nat) : Below B w (w'.drewN n) := ⟨h.os, h.tape, h.output, h.size, h.block⟩
theorem text_ne {a b : ByteArray} (h : a ≠ b) : (a.toList == b.toList) = false := beq_eq_false_iff_ne.2 fun e => h (ByteArray.ext (Array.ext' (by rwa [ByteArray.toList_eq, ByteArray.toList_eq] at e)))
def PlacePost (ks : List ByteArray) (key : ByteArray) (w : World) (e : Ending) (w' : World) : Prop := ∃ (i : Nat) (b : Bool), e = .returned (.tuple #[.int .i64 i, .bool b]) ∧ Below w.heap.size w w' ∧ (b = true → ∃ h : i < ks.length, ks[i] = key) ∧ (b = false → key ∉ ks)

set_option maxRecDepth 100000 in
set_option maxHeartbeats 1600000 in
theorem place_any (x : RV) (v : Value) (key : ByteArray) (w : World) (hr : x.Rep w v) (hu : KeysUp x.keys) :
    Calls Tryd.prog 52 #[v, .string key] w (PlacePost x.keys key w) := by
  obtain ⟨k, h, t, l, ks, vs⟩ := x
  have HU : Hid (KeysUp ks) := Lib.hid hu
  have hl : ks.length ≤ reachN := by unfold RV.Rep at hr; obtain ⟨_, _, _, _, _, _, _, _, _, _, _, h, _⟩ := hr; exact h
  unfold RV.Rep at hr
  obtain ⟨al, cl, ak, ck, av, cv, rfl, hk, hh, ht, hll, hlk, hlv, hrl, hrk, hrv⟩ := hr
  have HRK := Lib.hid hrk
  have HB : Hid (∀ o, Below w.heap.size w (w.alloc o)) := Lib.hid fun o => (Below.refl _ w).alloc (Nat.le_refl _) o
  clear hrl hrk hrv hu hk hh ht hll hlv hlk
  unfold reachN at hl
  show Calls _ _ _ _ (PlacePost ks key w)
  unfold PlacePost
  have K4 : Hid ((w.alloc (.cells #[.int .i64 k, .int .i64 h, .string t, .slice al l.length cl, .slice ak ks.length ck, .slice av vs.length cv] 26)).cell? ⟨w.heap.size, 4, none⟩ = some (.slice ak ks.length ck)) := Lib.hid (by rw [Lib.cell_of_heap (heap_alloc_new w _)]; rfl)
  have HB1 := Lib.hid (HB.out (.cells #[.int .i64 k, .int .i64 h, .string t, .slice al l.length cl, .slice ak ks.length ck, .slice av vs.length cv] 26))
  clear HB
  go_enter Tryd.func52, Tryd.ntmps52
  go_wp2_with fail
  generalize w.alloc _ = w1 at *
  have k4 := K4.out
  go_loopg [6] (ks.length) (fun gk s6 wr => w1 = wr ∧ ∃ i : Nat, s6 = .int .i64 i ∧ i ≤ ks.length ∧ gk = ks.length - i ∧ Hid (∀ j (h : j < ks.length), j < i → Op.bytesLess ks[j].toList key.toList = true))
  case atStart => exact ⟨rfl, 0, rfl, Nat.zero_le _, rfl, Lib.hid fun j _ hj => absurd hj (Nat.not_lt_zero _)⟩
  case round =>
    obtain ⟨rfl, i, rfl, hi, rfl, HL⟩ := hrel
    by_cases hlt : i < ks.length
    · obtain ⟨kb, ko, rfl, hks, g0⟩ := HRK.out.get i hlt
      simp only [Nat.zero_add] at g0
      have q0 := (HB1.out.cell (p := ⟨kb, _, none⟩) (cell_lt g0)).trans g0
      obtain ⟨kx, hkx⟩ : ∃ kx, ks[i] = kx := ⟨_, rfl⟩
      rw [hkx] at q0
      have HKX := Lib.hid hkx
      clear hkx g0 hks
      have hj : (i : Int) < (ks.length : Int) := by omega
      cases hless : Op.bytesLess kx.toList key.toList
      · have HLS := Lib.hid hless
        by_cases heq : kx = key
        · have HE := Lib.hid heq
          subst heq
          go_wp2_with fail
          go_quiet (fail)
          go_wp2_with fail
          go_ret2
          exact ⟨i, true, rfl, below_drewB HB1.out nq, fun _ => ⟨hlt, HKX.out⟩, fun h => absurd h (by decide)⟩
        · have HNE := Lib.hid heq
          have hne2 := text_ne heq
          clear heq
          go_wp2_with fail
          go_quiet (fail)
          go_wp2_with fail
          go_ret2
          exact ⟨i, false, rfl, below_drewB HB1.out nq, fun h => absurd h (by decide), fun _ => place_out HU.out HL.out fun h => ⟨by rw [HKX.out]; exact HLS.out, by rw [HKX.out]; exact HNE.out⟩⟩
      · have HLS := Lib.hid hless
        go_wp2_with fail
        go_roundg (ks.length - (i + 1))
        case measure => omega
        case rel => exact ⟨rfl, i + 1, by go_num, by omega, rfl, Lib.hid fun j h hj => by
          rcases Nat.lt_or_ge j i with h2 | h2
          · exact HL.out j h h2
          · have : j = i := by omega
            subst this
            rw [HKX.out]; exact HLS.out⟩
    · have hj : ¬ ((i : Int) < (ks.length : Int)) := by omega
      have hd : decide ((i : Int) < (ks.length : Int)) = false := by simpa using hj
      go_wp2_with fail
      go_quiet (fail)
      go_wp2_with fail
      go_ret2
      exact ⟨i, false, rfl, below_drewB HB1.out nq, fun h => absurd h (by decide), fun _ => place_out HU.out HL.out fun h => absurd h hlt⟩
def HasPost (x : RV) (key : ByteArray) (w : World) (e : Ending) (w' : World) : Prop := ∃ b : Bool, e = .returned (.bool b) ∧ Below w.heap.size w w' ∧ (b = true → key ∈ x.keys) ∧ (b = false → key ∉ x.keys)
set_option maxRecDepth 100000 in
set_option maxHeartbeats 800000 in
theorem has_any (x : RV) (v : Value) (key : ByteArray) (w : World) (hr : x.Rep w v) (hu : KeysUp x.keys) :
    Calls Tryd.prog 28 #[v, .string key] w (HasPost x key w) := by
  have HP := Lib.hid (fun o => place_any x v key (w.alloc o) (hr.below ((Below.refl _ w).alloc (Nat.le_refl _) o)) hu)
  have HA : Hid (∀ o, Below w.heap.size w (w.alloc o)) := Lib.hid fun o => (Below.refl _ w).alloc (Nat.le_refl _) o
  obtain ⟨k, h, t, l, ks, vs⟩ := x
  unfold RV.Rep at hr
  obtain ⟨al, cl, ak, ck, av, cv, rfl, hk, hh, ht, hll, hlk, hlv, hrl, hrk, hrv⟩ := hr
  clear hrl hrk hrv hu hk hh ht hll hlv hlk
  show Calls _ _ _ _ (HasPost (.mk k h t l ks vs) key w)
  unfold HasPost
  show Calls _ _ _ _ (fun e w' => ∃ b : Bool, e = .returned (.bool b) ∧ Below w.heap.size w w' ∧ (b = true → key ∈ ks) ∧ (b = false → key ∉ ks))
  go_enter Tryd.func28, Tryd.ntmps28
  go_wp2_with fail
  refine (HP.out _).mono ?_
  rintro e w2 ⟨i, b, rfl, hb, h1, h2⟩
  have HB := Lib.hid ((HA.out _).trans (hb.mono (by simp)))
  have H1 := Lib.hid (And.intro h1 h2)
  clear hb h1 h2
  go_wp2_with fail
  go_ret
  exact ⟨b, rfl, HB.out, fun h => by obtain ⟨hi, e⟩ := H1.out.1 h; rw [← e]; exact List.getElem_mem hi, H1.out.2⟩
theorem heap2_get0 (w : World) (A B : Obj) : ((w.alloc A).alloc B).heap[w.heap.size]? = some A := (Below.heap_alloc _ B _ (by simp)).trans (heap_alloc_new w A)
theorem heap2_get1 (w : World) (A B : Obj) : ((w.alloc A).alloc B).heap[w.heap.size + 1]? = some B := by
  have := heap_alloc_new (w.alloc A) B
  simpa using this
theorem below_set6 {w w2 : World} (h : Below w.heap.size w w2) (x0 x1 x2 x3 x4 x5 : Value) : Below w.heap.size w ((((((w2.setCell ⟨w.heap.size + 1, 0, none⟩ x0).setCell ⟨w.heap.size + 1, 1, none⟩ x1).setCell ⟨w.heap.size + 1, 2, none⟩ x2).setCell ⟨w.heap.size + 1, 3, none⟩ x3).setCell ⟨w.heap.size + 1, 4, none⟩ x4).setCell ⟨w.heap.size + 1, 5, none⟩ x5) := by
  have hp : ∀ o, w.heap.size ≤ (⟨w.heap.size + 1, o, none⟩ : Addr).block := fun o => Nat.le_succ _
  exact (((((h.setCell (hp 0) x0).setCell (hp 1) x1).setCell (hp 2) x2).setCell (hp 3) x3).setCell (hp 4) x4).setCell (hp 5) x5
/-- Nothing. -/
def nilR : RV := .mk 0 0 ByteArray.empty [] [] []
def GetPost (x : RV) (key : ByteArray) (W0 w : World) (e : Ending) (w' : World) : Prop := ∃ v y, e = .returned v ∧ y.Rep W0 v ∧ Below w.heap.size w w' ∧ (x.AtR key y ∨ (key ∉ x.keys ∧ y = nilR))
theorem nilR_good : nilR.Good := by
  unfold nilR RV.Good
  exact ⟨by decide, by decide, .inr rfl, .inr rfl, .inr rfl, .inr rfl, rfl, by decide, by decide, .inl rfl, by decide, by unfold RV.GoodL; trivial, by simp, fun i hi => by simp at hi, by unfold RV.GoodL; trivial⟩
set_option maxRecDepth 100000 in
set_option maxHeartbeats 1600000 in
theorem get_any (x : RV) (v : Value) (key : ByteArray) (W0 w : World) (hr : x.Rep W0 v) (hg : x.Good) (hb0 : Below W0.heap.size W0 w) :
    Calls Tryd.prog 27 #[v, .string key] w (GetPost x key W0 w) := by
  have HB0 := Lib.hid hb0
  have HP := Lib.hid (fun o o' => place_any x v key ((w.alloc o).alloc o') ((hr.below hb0).below (((Below.refl _ w).alloc (Nat.le_refl _) o).alloc (by simp) o')) hg.keys.1)
  have HA : Hid (∀ o o', Below w.heap.size w ((w.alloc o).alloc o')) := Lib.hid fun o o' => ((Below.refl _ w).alloc (Nat.le_refl _) o).alloc (by simp) o'
  obtain ⟨k, h, t, l, ks, vs⟩ := x
  have HLN : Hid (ks.length = vs.length) := Lib.hid hg.keys.2.1
  unfold RV.Rep at hr
  obtain ⟨al, cl, ak, ck, av, cv, rfl, hk, hh, ht, hll, hlk, hlv, hrl, hrk, hrv⟩ := hr
  have HRV := Lib.hid hrv
  clear hb0 hrl hrk hrv hg hk hh ht hll hlk
  unfold reachN at hlv
  show Calls _ _ _ _ (GetPost (.mk k h t l ks vs) key W0 w)
  unfold GetPost
  go_enter Tryd.func27, Tryd.ntmps27
  go_wp2_with fail
  refine (HP.out _ _).mono ?_
  rintro e w2 ⟨i, b, rfl, hb, h1, h2⟩
  have hz1 := (hb.block (w.heap.size + 1) (by simp)).trans (heap2_get1 w _ _)
  have hz0 := (hb.block w.heap.size (by simp; omega)).trans (heap2_get0 w _ _)
  have HB := Lib.hid ((HA.out _ _).trans (hb.mono (by simp; omega)))
  have H1 := Lib.hid h1
  have H2 := Lib.hid h2
  have k5 : w2.cell? ⟨w.heap.size, 5, none⟩ = some (.slice av vs.length cv) := by rw [Lib.cell_of_heap hz0]; rfl
  have r0 : w2.cell? ⟨w.heap.size + 1, 0, none⟩ = some (.int .i64 0) := by rw [Lib.cell_of_heap hz1]; rfl
  have r1 : w2.cell? ⟨w.heap.size + 1, 1, none⟩ = some (.int .i64 0) := by rw [Lib.cell_of_heap hz1]; rfl
  have r2 : w2.cell? ⟨w.heap.size + 1, 2, none⟩ = some (.string ⟨#[]⟩) := by rw [Lib.cell_of_heap hz1]; rfl
  have r3 : w2.cell? ⟨w.heap.size + 1, 3, none⟩ = some (.slice none 0 0) := by rw [Lib.cell_of_heap hz1]; rfl
  have r4 : w2.cell? ⟨w.heap.size + 1, 4, none⟩ = some (.slice none 0 0) := by rw [Lib.cell_of_heap hz1]; rfl
  have r5 : w2.cell? ⟨w.heap.size + 1, 5, none⟩ = some (.slice none 0 0) := by rw [Lib.cell_of_heap hz1]; rfl
  have s0 := Lib.frozen_of_heap hz1 0
  have s1 := Lib.frozen_of_heap hz1 1
  have s2 := Lib.frozen_of_heap hz1 2
  have s3 := Lib.frozen_of_heap hz1 3
  have s4 := Lib.frozen_of_heap hz1 4
  have s5 := Lib.frozen_of_heap hz1 5
  clear hb h1 h2 HP HA hz0 hz1
  cases b
  · clear k5
    go_wp2_with fail
    refine bodyPost_ret (v := .agg #[.int .i64 0, .int .i64 0, .string ⟨#[]⟩, .slice none 0 0, .slice none 0 0, .slice none 0 0]) (by rw [results_cell rfl]; go_simp) rfl ?_
    refine ⟨_, nilR, rfl, ?_, ?_, .inr ⟨H2.out (by simp), rfl⟩⟩
    · exact rep_flat (by unfold I64; omega) (by unfold I64; omega) (by decide)
    · exact below_set6 HB.out _ _ _ _ _ _
  · obtain ⟨hi, hkey⟩ := H1.out rfl
    have hiv : i < vs.length := by have h3 := HLN.out; have h4 : i < ks.length := hi; omega
    have HAT : Hid ((RV.mk k h t l ks vs).AtR key vs[i]) := Lib.hid ⟨i, hi, hiv, hkey, rfl⟩
    obtain ⟨eb, eo, c0, c1, c2, c3, c4, c5, rfl, e0, e1, e2, e3, e4, e5, hre⟩ := HRV.out.get i hiv
    simp only [Nat.zero_add] at e0 e1 e2 e3 e4 e5
    have HRE := Lib.hid hre
    have hev := cell_lt e0
    have HB3 := Lib.hid (HB0.out.trans (HB.out.mono HB0.out.size))
    have f0 := (HB3.out.cell (p := ⟨eb, _, none⟩) hev).trans e0
    have f1 := (HB3.out.cell (p := ⟨eb, _, none⟩) hev).trans e1
    have f2 := (HB3.out.cell (p := ⟨eb, _, none⟩) hev).trans e2
    have f3 := (HB3.out.cell (p := ⟨eb, _, none⟩) hev).trans e3
    have f4 := (HB3.out.cell (p := ⟨eb, _, none⟩) hev).trans e4
    have f5 := (HB3.out.cell (p := ⟨eb, _, none⟩) hev).trans e5
    obtain ⟨vk, vh, vt, val, vnl, vcl, vak, vnk, vck, vav, vnv, vcv, rfl, rfl, rfl, rfl, rfl, rfl⟩ := hre.shape
    have hj : (i : Int) < (vs.length : Int) := by omega
    clear e0 e1 e2 e3 e4 e5 hre hi hkey
    go_wp2_with fail
    refine bodyPost_ret (v := .agg #[.int .i64 vk, .int .i64 vh, .string vt, .slice val vnl vcl, .slice vak vnk vck, .slice vav vnv vcv]) (by rw [results_cell rfl]; go_simp) rfl ?_
    exact ⟨_, _, rfl, HRE.out, below_set6 HB.out _ _ _ _ _ _, .inl HAT.out⟩
end Go.Proofs.YtjpcdbopioblaaaDoor
