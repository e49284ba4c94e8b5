/- Texts of this proof laid together by a program: SpecFigures, ToGo, FromGo0, FromGo, FromGoL, MapRow, SortedKeys, MapRow2. -/
import Derived.Test.YtjpcdbopioblaaaGreatDoorMh2
import Derived.Test.YtjpcdbopioblaaaGreatDoorMh4
import Derived.Test.YtjpcdbopioblaaaGreatDoorMh7
/- spec.figures walked: the JSON text of a number. -/
namespace Go.Proofs.YtjpcdbopioblaaaGreatDoor
open Go.RowKit

theorem digB_text (n : Nat) : digB n = ⟨(digText n).toArray⟩ := by
  unfold digB textB digText
  rw [List.map_map]
  rfl
theorem numT_pos (m : Nat) : (⟨(numT (m : Int)).toArray⟩ : ByteArray) = digB (m / 2) ++ (if m % 2 = 0 then ⟨#[]⟩ else ⟨#[46, 53]⟩) := by
  rw [numT_parts, if_neg (by omega), Int.natAbs_natCast, List.nil_append, digB_text]
  by_cases h : m % 2 = 0
  · rw [if_pos h, if_pos (by omega)]
    exact ByteArray.ext (by simp)
  · rw [if_neg h, if_neg (by omega)]
    exact ByteArray.ext (by simp)
theorem numT_neg {h : Int} (h0 : h < 0) : (⟨(numT h).toArray⟩ : ByteArray) = ⟨#[45]⟩ ++ ⟨(numT (h.natAbs : Int)).toArray⟩ := by
  rw [numT_parts, if_pos h0, numT_parts, if_neg (show ¬ ((h.natAbs : Nat) : Int) < 0 by omega), Int.natAbs_natCast]
  have e : (h % 2 = 0) = ((h.natAbs : Int) % 2 = 0) := by
    rw [eq_iff_iff]
    omega
  simp only [e]
  exact ByteArray.ext (by simp)
theorem numT_len2 {h : Int} (h1 : 0 ≤ h) (h2 : h ≤ 18014398509481984) : (numT h).length ≤ 100 := by
  rw [numT_parts, if_neg (by omega), List.nil_append, List.length_append]
  have h3 := dig_len 19 (h.natAbs / 2) (by omega)
  unfold digText
  rw [List.length_map]
  split <;> simp <;> omega
theorem digB_len (n : Nat) (hn : n < 9223372036854775808) : (digB n).size ≤ 25 := by
  have := dig_len 19 n (by omega)
  unfold digB
  rw [textB_size]
  simp
  omega
set_option maxRecDepth 100000 in
set_option maxHeartbeats 1600000 in
theorem figures_pos (m : Nat) (w : World) (hm : m ≤ 18014398509481984) : Calls Tryz.prog 98 #[.int .i64 m] w (Told 0 (numT m) w) := by
  have h1 : ¬ (m : Int) < -1152921504606846976 := by omega
  have h2 : ¬ (1152921504606846976 : Int) < (m : Int) := by omega
  have h3 : ¬ (m : Int) < 0 := by omega
  unfold Told
  by_cases hbig : 1000000000000000 < m / 2
  · have hb' : (1000000000000000 : Int) < (m : Int) / 2 := by omega
    go_enter Tryz.func98, Tryz.ntmps98
    go_wp2_with fail
    go_ret2
    exact ⟨_, _, rfl, .inr ⟨rfl, by decide⟩, Below.refl _ _⟩
  · have hb' : ¬ (1000000000000000 : Int) < (m : Int) / 2 := by omega
    have HD := Lib.hid (fun wx => digits_any (m / 2) wx (by omega))
    rw [show ((m / 2 : Nat) : Int) = (m : Int) / 2 by omega] at HD
    have HN := Lib.hid (numT_pos m)
    have hsz := digB_len (m / 2) (by omega)
    have hcc : ¬ 9223372036854775807 < (digB (m / 2)).size + (⟨#[46, 53]⟩ : ByteArray).size := by
      have : (⟨#[46, 53]⟩ : ByteArray).size = 2 := rfl
      omega
    clear hsz
    generalize digB (m / 2) = d at *
    by_cases h0 : m % 2 = 0
    · have h0' : ((m : Int) % 2 == 0) = true := by simp; omega
      rw [if_pos h0] at HN
      go_enter Tryz.func98, Tryz.ntmps98
      go_wp2_with fail
      refine (HD.out _).mono ?_
      rintro e w1 ⟨rfl, rfl⟩
      go_wp2_with fail
      go_ret2
      exact ⟨_, _, rfl, .inl ⟨rfl, HN.out.symm ▸ (ByteArray.ext (by simp))⟩, Below.refl _ _⟩
    · have h0' : ((m : Int) % 2 == 0) = false := by simp; omega
      rw [if_neg h0] at HN
      go_enter Tryz.func98, Tryz.ntmps98
      go_wp2_with fail
      refine (HD.out _).mono ?_
      rintro e w1 ⟨rfl, rfl⟩
      go_wp2_with fail
      go_ret2
      exact ⟨_, _, rfl, .inl ⟨rfl, HN.out.symm⟩, Below.refl _ _⟩
set_option maxRecDepth 100000 in
set_option maxHeartbeats 1600000 in
theorem figures_any (h : Int) (w : World) (h1 : -18014398509481984 ≤ h) (h2 : h ≤ 18014398509481984) : Calls Tryz.prog 98 #[.int .i64 h] w (Told 1 (numT h) w) := by
  by_cases h0 : h < 0
  · have HF := Lib.hid (fun wx => figures_pos h.natAbs wx (by omega))
    rw [show ((h.natAbs : Nat) : Int) = -h by omega] at HF
    have HN := Lib.hid (numT_neg h0)
    have hl := numT_len2 (h := ((h.natAbs : Nat) : Int)) (by omega) (by omega)
    have k1 : ¬ h < -1152921504606846976 := by omega
    have k2 : ¬ (1152921504606846976 : Int) < h := by omega
    have hw : IntKind.i64.wrap (-h) = -h := by unfold IntKind.wrap IntKind.bits IntKind.signed; simp; omega
    rw [show ((h.natAbs : Nat) : Int) = -h by omega] at HN hl
    unfold Told at HF ⊢
    go_enter Tryz.func98, Tryz.ntmps98
    go_wp2_with fail
    refine (HF.out _).mono ?_
    rintro e w1 ⟨t, how, rfl, hh, hb⟩
    have HT := Lib.hid (And.intro hh hb)
    have hcc : ¬ 9223372036854775807 < (⟨#[45]⟩ : ByteArray).size + t.size := by
      have h3 : (⟨#[45]⟩ : ByteArray).size = 1 := rfl
      rcases hh with ⟨_, e⟩ | ⟨_, e⟩
      · have h4 : t.size = (numT (-h)).length := by rw [e]; show (List.toArray _).size = _; simp
        omega
      · omega
    clear hh hb hl
    go_wp2_with fail
    go_ret2
    refine ⟨_, _, rfl, ?_, HT.out.2⟩
    rcases HT.out.1 with ⟨e1, e2⟩ | ⟨e1, e2⟩
    · exact .inl ⟨e1, by rw [HN.out, e2]⟩
    · refine .inr ⟨e1, ?_⟩
      rw [ByteArray.size_append]
      have h3 : (⟨#[45]⟩ : ByteArray).size = 1 := rfl
      omega
  · obtain ⟨m, rfl⟩ : ∃ m : Nat, h = m := ⟨h.toNat, by omega⟩
    exact (figures_pos m w (by omega)).mono fun _ _ h => h.mono (by decide)
end Go.Proofs.YtjpcdbopioblaaaGreatDoor

/- The thin package's toGo walked: a good value comes out as itself. -/
namespace Go.Proofs.YtjpcdbopioblaaaGreatDoor
open Go.RowKit Go.WideMaps Go.Maps

def GoPost (x : RV) (w : World) (e : Ending) (w' : World) : Prop := ∃ v, e = .returned (.tuple #[v, .bool true]) ∧ x.Go w' w.heap.size v ∧ Below w.heap.size w w'


/-- The list that is being made: block O; its first i places are filled. -/
structure MadeL (w : World) (O : Nat) (l : List RV) (i : Nat) (wx : World) : Prop where
  row : ∃ cs : Array Value, wx.heap[O]? = some (.cells cs 20 (0, 0)) ∧ cs.size = l.length ∧ ∀ (j : Nat) (_ : j < i) (h : j < l.length), ∃ x, cs[j]? = some x ∧ l[j].Go wx (O + 1) x
  below : Below O w wx
theorem MadeL.lt {w wx : World} {O i : Nat} {l : List RV} (h : MadeL w O l i wx) : O < wx.heap.size := by obtain ⟨cs, h1, _⟩ := h.row; exact lt_of_block h1
theorem MadeL.cell {w wx : World} {O i : Nat} {l : List RV} (h : MadeL w O l i wx) (j : Nat) (hj : j < l.length) : ∃ u, wx.cell? ⟨O, j, none⟩ = some u := by
  obtain ⟨cs, h1, h2, _⟩ := h.row
  exact ⟨cs[j]'(by omega), by simp [World.cell?, h1, show j < cs.size from by omega]⟩
theorem MadeL.fr {w wx : World} {O i : Nat} {l : List RV} (h : MadeL w O l i wx) (j : Nat) : wx.frozen? ⟨O, j, none⟩ = false := by
  obtain ⟨cs, h1, h2, _⟩ := h.row
  simp [World.frozen?, h1]
theorem MadeL.kept {w wx w' : World} {O i : Nat} {l : List RV} (h : MadeL w O l i wx) (hb : Below wx.heap.size wx w') : MadeL w O l i w' := by
  have hlt := h.lt
  obtain ⟨cs, h1, h2, h3⟩ := h.row
  refine ⟨⟨cs, (hb.block O hlt).trans h1, h2, fun j hj hl => ?_⟩, h.below.trans (hb.mono (by omega))⟩
  obtain ⟨x, hx, hg⟩ := h3 j hj hl
  exact ⟨x, hx, hg.same (.of_below hb _)⟩
theorem MadeL.store {w wx : World} {O i : Nat} {l : List RV} (h : MadeL w O l i wx) (hi : i < l.length) (x : Value) (hx : l[i].Go wx (O + 1) x) : MadeL w O l (i + 1) (wx.setCell ⟨O, i, none⟩ x) := by
  have hlt := h.lt
  obtain ⟨cs, h1, h2, h3⟩ := h.row
  have hg : wx.grownBy (wx.setCell ⟨O, i, none⟩ x) (some O) := gb_set (World.grownBy.refl wx _) i x
  have hs : SameFrom (O + 1) wx (wx.setCell ⟨O, i, none⟩ x) := .of_gb hg (by omega)
  refine ⟨⟨cs.setIfInBounds i x, ?_, by simpa using h2, fun j hj hl => ?_⟩, below_gb h.below hg (by omega) (Nat.le_refl _)⟩
  · have h' : wx.heap[O] = .cells cs 20 (0, 0) := by simpa [Array.getElem?_eq_getElem hlt] using h1
    show (wx.heap.modify O _)[O]? = _
    rw [Array.getElem?_eq_getElem (by simpa using hlt), Array.getElem_modify_self, h']
    rfl
  · by_cases he : j = i
    · subst he
      exact ⟨x, by simp [show j < cs.size from by omega], hx.same hs⟩
    · obtain ⟨y, hy, hg'⟩ := h3 j (by omega) hl
      exact ⟨y, by rw [Array.getElem?_setIfInBounds_ne (by omega)]; exact hy, hg'.same hs⟩
theorem MadeL.start (w : World) (l : List RV) : MadeL w w.heap.size l 0 (w.alloc (.cells (madeCells #[.nilIface] l.length) 20)) :=
  ⟨⟨_, heap_alloc_new _ _, by simp [size_madeCells], fun j hj => by omega⟩, (Below.refl _ _).alloc (Nat.le_refl _) _⟩
theorem MadeL.done {w wx : World} {O : Nat} {l : List RV} (h : MadeL w O l l.length wx) : RV.GoL wx O (some ⟨O, 0, none⟩) 0 l := by
  obtain ⟨cs, h1, h2, h3⟩ := h.row
  refine RV.GoL.of (Nat.le_refl _) l 0 fun j hj => ?_
  obtain ⟨x, hx, hg⟩ := h3 j hj hj
  exact ⟨x, by simpa [World.cell?, h1] using hx, hg.mono (by omega)⟩

set_option maxRecDepth 100000 in
set_option maxHeartbeats 400000 in
theorem listToGo_big (n : Nat) (ih : ∀ (x : RV) (v : Value) (w : World), x.nodes ≤ n → x.Good → x.Rep w v → Calls Tryz.prog 35 #[v] w (GoPost x w))
    (l : List RV) (a : Option Addr) (cap : Nat) (w : World) (hn : RV.nodesL l ≤ n) (hg : RV.GoodL l) (hr : RV.RepL w a 0 l) (hl : l.length ≤ 2000) :
    Calls Tryz.prog 73 #[.slice a l.length cap] w fun e w' => ∃ a' cap', e = .returned (.tuple #[.slice a' l.length cap', .bool true]) ∧ RV.GoL w' w.heap.size a' 0 l ∧ Below w.heap.size w w' := by
  have HIH := Lib.hid ih
  have HR := Lib.hid hr
  have HN := Lib.hid hn
  have HG := Lib.hid hg
  clear ih hr hn hg
  have info : (Tryz.prog.info? 20).map (fun i => (i.zero, i.size, i.bytes)) = some (some .nilIface, 1, 16) := by kernel_rfl
  have hmk := run_make_row' (P := Tryz.prog) 87 20 .nilIface 16 Tryz.underlying87 info rfl .i64 .i64 l.length (by omega) (by omega)
  clear info
  go_enter Tryz.func73, Tryz.ntmps73
  go_wp2_with fail
  have H0 := Lib.hid (MadeL.start w l)
  go_loopg [5, 6, 7, 8, 14] (l.length) (fun gk _ _ _ _ s14 wr => ∃ i : Nat, s14 = .int .i64 i ∧ i ≤ l.length ∧ gk = l.length - i ∧ Hid (MadeL w w.heap.size l i wr))
  case atStart => exact ⟨0, rfl, Nat.zero_le _, rfl, H0⟩
  case round =>
    obtain ⟨i, rfl, hi, rfl, HM⟩ := hrel
    by_cases hlt : i < l.length
    · obtain ⟨eb, eo, c0, c1, c2, c3, c4, c5, rfl, e0, e1, e2, e3, e4, e5, hre⟩ := HR.out.get i hlt
      simp only [Nat.zero_add] at e0 e1 e2 e3 e4 e5
      have HRE := Lib.hid hre
      have hbw := HM.out.below
      have hel := cell_lt e0
      have f0 := (hbw.cell (p := ⟨eb, _, none⟩) hel).trans e0
      have f1 := (hbw.cell (p := ⟨eb, _, none⟩) hel).trans e1
      have f2 := (hbw.cell (p := ⟨eb, _, none⟩) hel).trans e2
      have f3 := (hbw.cell (p := ⟨eb, _, none⟩) hel).trans e3
      have f4 := (hbw.cell (p := ⟨eb, _, none⟩) hel).trans e4
      have f5 := (hbw.cell (p := ⟨eb, _, none⟩) hel).trans e5
      clear e0 e1 e2 e3 e4 e5 hbw
      obtain ⟨vk, vh, vt, val, vnl, vcl, vak, vnk, vck, vav, vnv, vcv, rfl, rfl, rfl, rfl, rfl, rfl⟩ := hre.shape
      clear hre
      have hnn : l[i].nodes ≤ n := Nat.le_trans (RV.nodes_le hlt) HN.out
      have hgi : l[i].Good := HG.out.get i hlt
      have HC : Hid (∀ wx, Below w.heap.size w wx → Calls Tryz.prog 35 #[.agg #[.int .i64 vk, .int .i64 vh, .string vt, .slice val vnl vcl, .slice vak vnk vck, .slice vav vnv vcv]] wx (GoPost l[i] wx)) := fun wx hb => HIH.out _ _ _ hnn hgi (HRE.out.below hb)
      clear hnn hgi
      go_wp2_with fail
      refine (HC.out _ (HM.out.below.alloc (Nat.le_of_lt HM.out.lt) _)).mono ?_
      rintro e w3 ⟨v, rfl, hv, hb3⟩
      have HM3 := Lib.hid ((HM.out.kept ((Below.refl _ _).alloc (Nat.le_refl _) _)).kept hb3)
      have HV : Hid (l[i].Go w3 (w.heap.size + 1) v) := hv.mono (by have := HM.out.lt; simp; omega)
      obtain ⟨u, hcO⟩ := HM3.out.cell i hlt
      have hfO := HM3.out.fr i
      clear hb3 f0 f1 f2 f3 f4 f5
      rcases hv.shape with rfl | ⟨ty, y, rfl⟩
      all_goals
        clear hv
        go_wp2_with fail
        go_roundg (l.length - (i + 1))
        case measure => omega
        case rel => exact ⟨i + 1, by go_num, by omega, rfl, HM3.out.store hlt _ HV.out⟩
    · obtain rfl : i = l.length := by omega
      go_wp2_with fail
      go_ret2
      exact ⟨_, _, rfl, HM.out.done, HM.out.below⟩

/-- The map that is being made: block M; the first i keys are in it; X: the box of the argument. -/
structure MadeM (w : World) (M : Nat) (cs : Array Value) (ks : List ByteArray) (vs : List RV) (i : Nat) (wx : World) : Prop where
  map : ∃ xs, wx.ownsMap Tryz.prog 9 heldR M i (mapD (ks.take i) xs) ∧ xs.length = i ∧ RV.GoV wx (M + 1) xs (vs.take i)
  box : wx.heap[w.heap.size]? = some (.cells cs 27 (0, 0))
  below : Below w.heap.size w wx
  up : w.heap.size < M
theorem MadeM.lt {w wx : World} {M i : Nat} {cs : Array Value} {ks : List ByteArray} {vs : List RV} (h : MadeM w M cs ks vs i wx) : M < wx.heap.size := by obtain ⟨xs, h1, _⟩ := h.map; exact h1.lt
theorem MadeM.cell {w wx : World} {M i : Nat} {cs : Array Value} {ks : List ByteArray} {vs : List RV} (h : MadeM w M cs ks vs i wx) (j : Nat) : wx.cell? ⟨w.heap.size, j, none⟩ = cs[j]? := by simp [World.cell?, h.box]
theorem MadeM.kept {w wx w' : World} {M i : Nat} {cs : Array Value} {ks : List ByteArray} {vs : List RV} (h : MadeM w M cs ks vs i wx) (hb : Below wx.heap.size wx w') : MadeM w M cs ks vs i w' := by
  have hlt := h.lt
  obtain ⟨xs, h1, h2, h3⟩ := h.map
  exact ⟨⟨xs, (SameFrom.of_below hb 0).map (Nat.zero_le _) h1, h2, h3.same (.of_below hb _)⟩, (hb.block _ (by have := h.up; omega)).trans h.box, h.below.trans (hb.mono (by have := h.up; omega)), h.up⟩
theorem MadeM.store {w wx w' : World} {M i : Nat} {cs : Array Value} {ks : List ByteArray} {vs : List RV} (h : MadeM w M cs ks vs i wx) (hi : i < ks.length) (hv : i < vs.length) (x : Value) (hx : vs[i].Go wx (M + 1) x) (hu : KeysUp ks) (key : ByteArray) (hkey : ks[i] = key)
    (xs : List Value) (m2 : xs.length = i) (m3 : RV.GoV wx (M + 1) xs (vs.take i))
    (h1 : w'.ownsMap Tryz.prog 9 heldR M (i + 1) ((mapD (ks.take i) xs).put (.string key.data.toList) (.held x))) (hg : wx.grownBy w' (some M)) : MadeM w M cs ks vs (i + 1) w' := by
  have hlt := h.lt
  have hs : SameFrom (M + 1) wx w' := .of_gb hg (by omega)
  subst hkey
  refine ⟨⟨xs ++ [x], ?_, by simp [m2], ?_⟩, (hg.block _ (by have := h.up; omega) (fun e => by cases e; exact absurd h.up (Nat.lt_irrefl _))).trans h.box, below_gb h.below hg (by have := h.up; omega) (by have := h.up; omega), h.up⟩
  · rw [mapD_put (ks.take i) xs ks[i] x (by simp [m2]; omega) (fun y hy => by
      obtain ⟨j, hj, rfl⟩ := List.mem_iff_getElem.1 hy
      simp only [List.length_take] at hj
      simpa using hu.lt' (i := j) (j := i) (by omega) hi)] at h1
    rwa [List.take_succ_eq_append_getElem hi]
  · rw [List.take_succ_eq_append_getElem hv]
    exact RV.GoV.snoc (m3.same hs) (hx.same hs)

theorem run_makeMap_hint {P : Program} (t k e : TypeId) (kd : IntKind) (n : Int) (ht : P.underlying t = some (.map k e)) (w : World) :
    (Instr.makeMap t (some (.int kd n))).run P w = .ok (.map (some w.heap.size)) (w.alloc (.map #[] 0)) := by
  simp [Instr.makeMap, run_underlying ht]; rfl

set_option maxRecDepth 100000 in
set_option maxHeartbeats 800000 in
theorem mapToGo_any (n : Nat) (ih : ∀ (x : RV) (v : Value) (w : World), x.nodes ≤ n → x.Good → x.Rep w v → Calls Tryz.prog 35 #[v] w (GoPost x w))
    (k h : Int) (t : ByteArray) (l : List RV) (ks : List ByteArray) (vs : List RV) (v : Value) (w : World) (hn : RV.nodesL vs ≤ n) (hg : RV.GoodL vs) (hu : KeysUp ks) (hlen : ks.length = vs.length) (hr : (RV.mk k h t l ks vs).Rep w v) (hl : ks.length ≤ 2000) :
    Calls Tryz.prog 74 #[v] w fun e w' => ∃ r n' xs, e = .returned (.tuple #[.map (some r), .bool true]) ∧ w.heap.size ≤ r ∧ n' ≤ 1000000 ∧ w'.ownsMap Tryz.prog 9 heldR r n' (mapD ks xs) ∧ xs.length = ks.length ∧ RV.GoV w' w.heap.size xs vs ∧ Below w.heap.size w w' := by
  have HIH := Lib.hid ih
  have HN := Lib.hid hn
  have HG := Lib.hid hg
  have HU := Lib.hid hu
  have HLEN := Lib.hid hlen
  unfold RV.Rep at hr
  obtain ⟨al, cl, ak, ck, av, cv, rfl, hk, hh, ht, hll, hlk, hlv, hrl, hrk, hrv⟩ := hr
  have HRK := Lib.hid hrk
  have HRV := Lib.hid hrv
  clear ih hn hg hu hlk hlv hll hrl hrk hrv
  have hmk := fun kd n => run_makeMap_hint (P := Tryz.prog) 90 9 20 kd n Tryz.underlying90
  have K : Keyed Tryz.prog 9 := string_keyed Tryz.underlying9
  have hneq : ((ks.length : Int) != (vs.length : Int)) = false := by simp [hlen]
  clear hlen
  obtain ⟨cs, hcs⟩ : ∃ cs : Array Value, cs = #[.int .i64 k, .int .i64 h, .string t, .slice al l.length cl, .slice ak ks.length ck, .slice av vs.length cv] := ⟨_, rfl⟩
  have HCS := Lib.hid hcs
  clear hcs
  go_enter Tryz.func74, Tryz.ntmps74
  go_wp2_with fail
  have H0 : Hid (MadeM w (w.heap.size + 1) cs ks vs 0 ((w.alloc (.cells #[.int .i64 k, .int .i64 h, .string t, .slice al l.length cl, .slice ak ks.length ck, .slice av vs.length cv] 27)).alloc (.map #[] 0))) := by
    refine ⟨⟨[], ?_, rfl, by unfold RV.GoV; rfl⟩, ?_, ((Below.refl _ w).alloc (Nat.le_refl _) _).alloc (by simp) _, by omega⟩
    · have := World.ownsMap_made (H := Value) (w.alloc (.cells #[.int .i64 k, .int .i64 h, .string t, .slice al l.length cl, .slice ak ks.length ck, .slice av vs.length cv] 27)) Tryz.prog 9 heldR
      simpa [mapD] using this
    · rw [HCS.out]
      exact (Below.heap_alloc _ _ _ (by simp)).trans (heap_alloc_new _ _)
  go_loopg [5, 6, 7, 8, 23] (ks.length) (fun gk _ _ _ _ s23 wr => ∃ i : Nat, s23 = .int .i64 i ∧ i ≤ ks.length ∧ gk = ks.length - i ∧ Hid (MadeM w (w.heap.size + 1) cs ks vs i wr))
  case atStart => exact ⟨0, rfl, Nat.zero_le _, rfl, H0⟩
  case round =>
    obtain ⟨i, rfl, hi, rfl, HM⟩ := hrel
    by_cases hlt : i < ks.length
    · have hltv : i < vs.length := by have := HLEN.out; omega
      have k4 : wr.cell? ⟨w.heap.size, 4, none⟩ = some (.slice ak ks.length ck) := by rw [HM.out.cell, HCS.out]; rfl
      have k5 : wr.cell? ⟨w.heap.size, 5, none⟩ = some (.slice av vs.length cv) := by rw [HM.out.cell, HCS.out]; rfl
      obtain ⟨kb, ko, rfl, hks, g0⟩ := HRK.out.get i hlt
      simp only [Nat.zero_add] at g0
      have hel := cell_lt g0
      have q0 := (HM.out.below.cell (p := ⟨kb, _, none⟩) hel).trans g0
      obtain ⟨key, hkey⟩ : ∃ key, ks[i] = key := ⟨_, rfl⟩
      rw [hkey] at q0 g0 hks
      have HKEY := Lib.hid hkey
      clear hkey g0
      obtain ⟨eb, eo, c0, c1, c2, c3, c4, c5, rfl, e0, e1, e2, e3, e4, e5, hre⟩ := HRV.out.get i hltv
      simp only [Nat.zero_add] at e0 e1 e2 e3 e4 e5
      have HRE := Lib.hid hre
      have hbw := HM.out.below
      have hev := cell_lt e0
      have f0 := (hbw.cell (p := ⟨eb, _, none⟩) hev).trans e0
      have f1 := (hbw.cell (p := ⟨eb, _, none⟩) hev).trans e1
      have f2 := (hbw.cell (p := ⟨eb, _, none⟩) hev).trans e2
      have f3 := (hbw.cell (p := ⟨eb, _, none⟩) hev).trans e3
      have f4 := (hbw.cell (p := ⟨eb, _, none⟩) hev).trans e4
      have f5 := (hbw.cell (p := ⟨eb, _, none⟩) hev).trans e5
      clear e0 e1 e2 e3 e4 e5 hbw
      obtain ⟨vk, vh, vt, val, vnl, vcl, vak, vnk, vck, vav, vnv, vcv, rfl, rfl, rfl, rfl, rfl, rfl⟩ := hre.shape
      clear hre
      have hnn : vs[i].nodes ≤ n := Nat.le_trans (RV.nodes_le hltv) HN.out
      have hgi : vs[i].Good := HG.out.get i hltv
      have HC : Hid (∀ wx, Below w.heap.size w wx → Calls Tryz.prog 35 #[.agg #[.int .i64 vk, .int .i64 vh, .string vt, .slice val vnl vcl, .slice vak vnk vck, .slice vav vnv vcv]] wx (GoPost vs[i] wx)) := fun wx hb => HIH.out _ _ _ hnn hgi (HRE.out.below hb)
      clear hnn hgi
      have hp : (i : Int) ≤ 0 ∨ ∃ j, i = j + 1 ∧ ∃ pk : ByteArray, wr.cell? ⟨kb, ko + j, none⟩ = some (.string pk) ∧ Op.bytesLess pk.toList key.toList = true := by
        cases i with
        | zero => exact .inl (Int.le_refl _)
        | succ j =>
          obtain ⟨kb2, ko2, e2, _, g2⟩ := HRK.out.get j (by omega)
          cases e2
          simp only [Nat.zero_add] at g2
          refine .inr ⟨j, rfl, _, (HM.out.below.cell (p := ⟨kb, _, none⟩) hel).trans g2, ?_⟩
          have := HU.out j hlt
          rwa [HKEY.out] at this
      obtain ⟨gi, hgi⟩ : ∃ gi, gi = ks.length - (i + 1) := ⟨_, rfl⟩
      have HGI := Lib.hid hgi
      clear hgi
      rcases hp with hi0 | ⟨j, rfl, pk, j2, hless⟩
      all_goals
        go_wp2_with fail
        refine (HC.out _ HM.out.below).mono ?_
        rintro e w3 ⟨v, rfl, hv, hb3⟩
        have HM3 := Lib.hid (HM.out.kept hb3)
        have hvM := hv.mono (base' := w.heap.size + 1 + 1) (by have := HM.out.lt; omega)
        have HV := Lib.hid hvM
        obtain ⟨xs, m1, m2, m3⟩ := HM3.out.map
        have HX2 := Lib.hid m2
        have HX3 := Lib.hid m3
        clear hb3 f0 f1 f2 f3 f4 f5 m2 m3 hv
        rcases hvM.shape with rfl | ⟨ty, y, rfl⟩
        all_goals
          clear hvM
          go_wp2_with (at_mapUpdate; go_must (refine wpList_mapUpdate_own _ rfl _ _ _ 90 rfl 9 20 K Tryz.underlying90 heldR _ _ _ rfl m1 (by unfold maxLen; omega) _ _ _ rfl rfl (keyOf_string_mk Tryz.underlying9 (by unfold reachN at hks; unfold maxLen; omega)) _ [] rfl ?_); intro w5 hown5 hgrow5)
          go_roundg gi
          case measure => have := HGI.out; omega
          case rel => exact ⟨_, by go_num, by omega, HGI.out, HM3.out.store hlt hltv _ HV.out HU.out key HKEY.out xs HX2.out HX3.out hown5 hgrow5⟩
    · obtain rfl : i = ks.length := by omega
      go_wp2_with fail
      go_ret2
      obtain ⟨xs, m1, m2, m3⟩ := HM.out.map
      rw [List.take_length] at m1
      rw [HLEN.out, List.take_length] at m3
      exact ⟨_, _, xs, rfl, by omega, by omega, m1, m2, m3.mono (by omega), HM.out.below⟩

set_option maxRecDepth 100000 in
set_option maxHeartbeats 400000 in
theorem toGo_big (n : Nat) (hn4 : n ≤ 2000) : ∀ (x : RV) (v : Value) (w : World), x.nodes ≤ n → x.Good → x.Rep w v → Calls Tryz.prog 35 #[v] w (GoPost x w) := by
  induction n with
  | zero => intro x v w hn; have := x.nodes_pos; omega
  | succ n ih =>
  intro x v w hn hg hr
  obtain ⟨k, h, t, l, ks, vs⟩ := x
  have HIH := Lib.hid (ih (by omega))
  have HR := Lib.hid hr
  have HG := Lib.hid hg
  have HN := Lib.hid hn
  clear ih hn
  unfold RV.Rep at hr
  obtain ⟨al, cl, ak, ck, av, cv, rfl, hk, hh, ht, hll, hlk, hlv, hrl, hrk, hrv⟩ := hr
  clear hlk hlv hll hrl hrk hrv
  have HG' := Lib.hid hg
  have HRL : Hid (RV.RepL w al 0 l) := by have := HR.out; unfold RV.Rep at this; obtain ⟨_, _, _, _, _, _, e, _, _, _, _, _, _, h7, _⟩ := this; simp only [Value.agg.injEq, Array.mk.injEq, List.cons.injEq, Value.slice.injEq, and_true] at e; obtain ⟨_, _, _, ⟨rfl, _⟩, _⟩ := e; exact h7
  unfold RV.Good at hg
  obtain ⟨g0, g1, g2, g3, g4, g5, g6, g7, g8, g9, g10, g11, g12, g13, g14⟩ := hg
  have G6 := Lib.hid g6
  have G11 := Lib.hid g11
  have G13 := Lib.hid g13
  have G14 := Lib.hid g14
  have G9 := Lib.hid g9
  have hN : RV.nodesL l ≤ n ∧ RV.nodesL vs ≤ n := by have := HN.out; unfold RV.nodes at this; omega
  have HNN := Lib.hid hN
  clear g2 g3 g4 g5 g6 g9 g10 g11 g12 g13 g14 hN
  have hkk : k = 0 ∨ k = 1 ∨ k = 2 ∨ k = 3 ∨ k = 4 ∨ k = 5 ∨ k = 6 := by omega
  clear g0 g1
  rcases hkk with rfl | rfl | rfl | rfl | rfl | rfl | rfl
  · go_enter Tryz.func35, Tryz.ntmps35
    go_wp2_with fail
    go_ret2
    exact ⟨_, rfl, by unfold RV.Go; exact .inl ⟨rfl, rfl⟩, (Below.refl _ _).alloc (Nat.le_refl _) _⟩
  · go_enter Tryz.func35, Tryz.ntmps35
    go_wp2_with fail
    go_ret2
    exact ⟨_, rfl, by unfold RV.Go; exact .inr (.inl ⟨rfl, rfl⟩), (Below.refl _ _).alloc (Nat.le_refl _) _⟩
  · go_enter Tryz.func35, Tryz.ntmps35
    go_wp2_with fail
    go_ret2
    exact ⟨_, rfl, by unfold RV.Go; exact .inr (.inr (.inl ⟨rfl, rfl⟩)), (Below.refl _ _).alloc (Nat.le_refl _) _⟩
  · by_cases hpar : h.tmod 2 = 0
    · go_enter Tryz.func35, Tryz.ntmps35
      go_wp2_with fail
      go_ret2
      exact ⟨_, rfl, by unfold RV.Go; exact .inr (.inr (.inr (.inl ⟨rfl, by unfold numG; rw [if_pos hpar]; rfl⟩))), (Below.refl _ _).alloc (Nat.le_refl _) _⟩
    · have hrange : -9007199254740992 < h ∧ h < 9007199254740992 := by
        rcases G9.out with h9 | h9
        · exact absurd (Int.tmod_eq_zero_of_dvd (Int.dvd_of_emod_eq_zero h9)) hpar
        · exact h9
      have hpar' : (h.tmod 2 == 0) = false := by simpa using hpar
      have hq : ∀ w, (binOp .quo 86 (.float .f64 (floatOfInt .f64 h)) (.float .f64 4611686018427387904)).run Tryz.prog w = .ok (.float .f64 (halfF h)) w := fun w => run_float_arith w .quo 86 .f64 _ _ _ (half_bits h hrange.1 hrange.2)
      have HP := Lib.hid hpar
      clear hpar hrange
      go_enter Tryz.func35, Tryz.ntmps35
      go_wp2_with fail
      go_ret2
      exact ⟨_, rfl, by unfold RV.Go; exact .inr (.inr (.inr (.inl ⟨rfl, by unfold numG; rw [if_neg HP.out]; rfl⟩))), (Below.refl _ _).alloc (Nat.le_refl _) _⟩
  · go_enter Tryz.func35, Tryz.ntmps35
    go_wp2_with fail
    go_ret2
    exact ⟨_, rfl, by unfold RV.Go; exact .inr (.inr (.inr (.inr (.inl ⟨rfl, rfl⟩)))), (Below.refl _ _).alloc (Nat.le_refl _) _⟩
  · have HC := Lib.hid (listToGo_big n HIH.out l al cl (w.alloc (.cells #[.int .i64 5, .int .i64 h, .string t, .slice al l.length cl, .slice ak ks.length ck, .slice av vs.length cv] 27)) HNN.out.1 G11.out (HRL.out.below ((Below.refl _ w).alloc (Nat.le_refl _) _)) (by have := RV.len_le l; have := HNN.out.1; omega))
    go_enter Tryz.func35, Tryz.ntmps35
    go_wp2_with fail
    refine HC.out.mono ?_
    rintro e w1 ⟨a', cap', rfl, hgl, hb⟩
    have HGL := Lib.hid hgl
    have HB := Lib.hid hb
    clear hgl hb
    go_wp2_with fail
    go_ret2
    exact ⟨_, rfl, by unfold RV.Go; exact .inr (.inr (.inr (.inr (.inr (.inl ⟨rfl, _, _, rfl, HGL.out.mono (by simp)⟩))))), ((Below.refl _ _).alloc (Nat.le_refl _) _).trans (HB.out.mono (by simp))⟩
  · have HC := Lib.hid (mapToGo_any n HIH.out 6 h t l ks vs _ (w.alloc (.cells #[.int .i64 6, .int .i64 h, .string t, .slice al l.length cl, .slice ak ks.length ck, .slice av vs.length cv] 27)) HNN.out.2 G14.out G13.out G6.out (HR.out.below ((Below.refl _ w).alloc (Nat.le_refl _) _)) (by have := RV.len_le vs; have := HNN.out.2; have := G6.out; omega))
    go_enter Tryz.func35, Tryz.ntmps35
    go_wp2_with fail
    refine HC.out.mono ?_
    rintro e w1 ⟨r, n', xs, rfl, h1, h2, h3, h4, h5, hb⟩
    have HGL := Lib.hid (And.intro h1 (And.intro h2 (And.intro h3 (And.intro h4 h5))))
    have HB := Lib.hid hb
    clear hb h1 h2 h3 h4 h5
    go_wp2_with fail
    go_ret2
    obtain ⟨h1, h2, h3, h4, h5⟩ := HGL.out
    exact ⟨_, rfl, by unfold RV.Go; exact .inr (.inr (.inr (.inr (.inr (.inr ⟨rfl, r, n', xs, rfl, by simp at h1; omega, h2, h3, h4, h5.mono (by simp)⟩))))), ((Below.refl _ _).alloc (Nat.le_refl _) _).trans (HB.out.mono (by simp))⟩

theorem toGo_any (n : Nat) (hn4 : n ≤ 400) : ∀ (x : RV) (v : Value) (w : World), x.nodes ≤ n → x.Good → x.Rep w v → Calls Tryz.prog 35 #[v] w (GoPost x w) := toGo_big n (by omega)
theorem listToGo_any (n : Nat) (ih : ∀ (x : RV) (v : Value) (w : World), x.nodes ≤ n → x.Good → x.Rep w v → Calls Tryz.prog 35 #[v] w (GoPost x w))
    (l : List RV) (a : Option Addr) (cap : Nat) (w : World) (hn : RV.nodesL l ≤ n) (hg : RV.GoodL l) (hr : RV.RepL w a 0 l) (hl : l.length ≤ 400) :
    Calls Tryz.prog 73 #[.slice a l.length cap] w fun e w' => ∃ a' cap', e = .returned (.tuple #[.slice a' l.length cap', .bool true]) ∧ RV.GoL w' w.heap.size a' 0 l ∧ Below w.heap.size w w' := listToGo_big n ih l a cap w hn hg hr (by omega)
end Go.Proofs.YtjpcdbopioblaaaGreatDoor

/- The thin package's way back, for values without parts: half, fromGo, result; and the laws' own comparisons. -/
namespace Go.Proofs.YtjpcdbopioblaaaGreatDoor
open Go.RowKit

/-- The tree lies in blocks from base on alone: it stands as long as these do. -/
def RV.Here (base : Nat) (w : World) (v : Value) (y : RV) : Prop := ∀ wx, SameFrom base w wx → y.Rep wx v
theorem SameFrom.refl (base : Nat) (w : World) : SameFrom base w w := fun _ _ _ => rfl
theorem RV.Here.rep {base : Nat} {w : World} {v : Value} {y : RV} (h : y.Here base w v) : y.Rep w v := h w (SameFrom.refl _ _)
theorem RV.Here.same {base : Nat} {w w' : World} {v : Value} {y : RV} (h : y.Here base w v) (hs : SameFrom base w w') (hz : w.heap.size ≤ w'.heap.size) : y.Here base w' v :=
  fun wx hx => h wx fun k hb hk => (hx k hb (Nat.lt_of_lt_of_le hk hz)).trans (hs k hb hk)
theorem RV.Here.mono {base base' : Nat} {w : World} {v : Value} {y : RV} (h : y.Here base w v) (hb : base' ≤ base) : y.Here base' w v := fun wx hx => h wx fun k hk => hx k (Nat.le_trans hb hk)

/-- What comes back: the same tree, in memory of the call's own. -/
def FromPost (y : RV) (w : World) (e : Ending) (w' : World) : Prop := ∃ v, e = .returned (.tuple #[v, .bool true]) ∧ y.Here w.heap.size w' v ∧ Below w.heap.size w w'

theorem rep_flat {k h : Int} {t : ByteArray} {w : World} (hk : I64 k) (hh : I64 h) (ht : t.size ≤ reachN) :
    (RV.mk k h t [] [] []).Rep w (.agg #[.int .i64 k, .int .i64 h, .string t, .slice none 0 0, .slice none 0 0, .slice none 0 0]) := by
  unfold RV.Rep
  exact ⟨none, 0, none, 0, none, 0, rfl, hk, hh, ht, by simp, by simp, by simp, by unfold RV.RepL; trivial, trivial, by unfold RV.RepL; trivial⟩

theorem trunc_extern (F : Nat) (s : Bool) (m : Nat) (i : Int) (h : FloatKind.f64.decode F = .number s m i) :
    Extern.MathFloor.toIntegral "math.archTrunc" .zero #[.float .f64 F] = pure (.float .f64 (FloatKind.f64.encode ((Ieee.Datum.number s m i).integral .zero))) := by
  conv => lhs; whnf
  rw [h]

/-- The one result of a function that keeps it in a cell. -/
theorem results_cell {fn : Func} {p : Tmp} {ty : TypeId} (h : fn.results = #[.cell p ty]) (tmps : Array Value) (P : Program) (w : World) :
    (results fn tmps).run P w = ((asAddr (tmps.getD p undef)).run P w).andThen fun a w₁ => (loadVar ty a).run P w₁ := by
  simp only [results, h]
  simp [Sem.run_bind, Result.andThen]

set_option maxRecDepth 100000 in
set_option maxHeartbeats 800000 in
theorem trunc_any (h : Int) (w : World) (h0 : h ≠ 0) (h1 : -9007199254740992 < h) (h2 : h < 9007199254740992) :
    Calls Tryz.prog 153 #[.float .f64 (floatOfInt .f64 h)] w fun e w' => e = .returned (.float .f64 (floatOfInt .f64 h)) ∧ w' = w := by
  have hx : ∀ W : World, (callFunc 170 #[.float .f64 (floatOfInt .f64 h)]).run Tryz.prog W = .ok (.value (.float .f64 (floatOfInt .f64 h))) W := fun W => by
    rw [run_callFunc_extern Tryz.func170 (by kernel_rfl) (by kernel_rfl) (by kernel_rfl) (e := Extern.MathFloor.toIntegral "math.archTrunc" .zero) (by kernel_rfl)]
    have hd : FloatKind.f64.decode (floatOfInt .f64 h) = .number (decide (h < 0)) (sig h.natAbs) (h.natAbs.log2 - 52) := int_read h h0 h1 h2
    have ht : FloatKind.f64.encode ((Ieee.Datum.number (decide (h < 0)) (sig h.natAbs) (h.natAbs.log2 - 52)).integral .zero) = floatOfInt .f64 h := by
      rw [← int_read h h0 h1 h2]; exact trunc_bits h h0 h1 h2
    rw [trunc_extern _ _ _ _ hd, ht]
    rfl
  generalize floatOfInt .f64 h = F at hx ⊢
  go_enter Tryz.func153, Tryz.ntmps153
  go_wp2_with fail
  go_ret
  exact ⟨rfl, rfl⟩

set_option maxRecDepth 100000 in
set_option maxHeartbeats 800000 in
theorem half_any (h : Int) (w : World) (h0 : h ≠ 0) (h1 : -9007199254740992 < h) (h2 : h < 9007199254740992) :
    Calls Tryz.prog 124 #[.float .f64 (floatOfInt .f64 h)] w fun e w' => e = .returned (.tuple #[.agg #[.int .i64 3, .int .i64 h, .string ByteArray.empty, .slice none 0 0, .slice none 0 0, .slice none 0 0], .bool true]) ∧ Below w.heap.size w w' := by
  have hT := fun W => trunc_any h W h0 h1 h2
  have ho1 : FloatKind.f64.format.order (floatOfInt .f64 h) (floatOfInt .f64 h) = some .eq := order_same h h0 h1 h2
  have ho2 : FloatKind.f64.format.order (floatOfInt .f64 h) 14109777632551763968 = some .gt := order_low h h0 h1 h2
  have ho3 : FloatKind.f64.format.order (floatOfInt .f64 h) 4886405595696988160 = some .lt := order_high h h0 h1 h2
  have hi : ∀ w, (convert 86 3 (.float .f64 (floatOfInt .f64 h))).run Tryz.prog w = .ok (.int .i64 h) w := fun w => run_convert_float_int w _ _ .f64 .i64 _ _ (by rw [Tryz.underlying86]; rfl) Tryz.underlying3 (toInt_bits h h0 h1 h2)
  generalize floatOfInt .f64 h = F at hT ho1 ho2 ho3 hi ⊢
  have HT := Lib.hid hT
  clear hT
  go_enter Tryz.func124, Tryz.ntmps124
  go_wp2_with (go_at_call 153; refine (HT.out _).mono ?_; rintro e w3 ⟨rfl, rfl⟩)
  refine bodyPost_ret (v := .tuple #[.agg #[.int .i64 3, .int .i64 h, .string ByteArray.empty, .slice none 0 0, .slice none 0 0, .slice none 0 0], .bool true]) (by rw [results_cell_tmp rfl]; go_simp; rfl) rfl ?_
  exact ⟨rfl, (Below.refl _ _).alloc (Nat.le_refl _) _⟩

/-- What the way back needs to know of a tree: its sizes. -/
def RV.Sized (y : RV) : Prop := y.nodes ≤ 100000 ∧ y.bytes ≤ 100000

theorem below_set {w w' : World} (h : Below w.heap.size w w') (o : Nat) (v : Value) : Below w.heap.size w (w'.setCell ⟨w.heap.size, o, none⟩ v) := h.setCell (Nat.le_refl _) v

set_option maxRecDepth 100000 in
set_option maxHeartbeats 800000 in
theorem fromGo_null (w : World) :
    Calls Tryz.prog 75 #[.nilIface] w fun e w' => e = .returned (.tuple #[.agg #[.int .i64 0, .int .i64 0, .string ByteArray.empty, .slice none 0 0, .slice none 0 0, .slice none 0 0], .bool true]) ∧ Below w.heap.size w w' := by
  have HB := Lib.hid (fun o => (Below.refl w.heap.size w).alloc (Nat.le_refl _) o)
  go_enter Tryz.func75, Tryz.ntmps75
  go_wp2_with fail
  refine bodyPost_ret (v := .tuple #[.agg #[.int .i64 0, .int .i64 0, .string ByteArray.empty, .slice none 0 0, .slice none 0 0, .slice none 0 0], .bool true]) (by rw [results_cell_tmp rfl]; go_simp; rfl) rfl ?_
  exact ⟨rfl, HB.out _⟩

set_option maxRecDepth 100000 in
set_option maxHeartbeats 800000 in
theorem fromGo_false (w : World) :
    Calls Tryz.prog 75 #[.iface 4 (.bool false)] w fun e w' => e = .returned (.tuple #[.agg #[.int .i64 1, .int .i64 0, .string ByteArray.empty, .slice none 0 0, .slice none 0 0, .slice none 0 0], .bool true]) ∧ Below w.heap.size w w' := by
  have a_bool := as_bool_bool
  have HB := Lib.hid (fun o => (Below.refl w.heap.size w).alloc (Nat.le_refl _) o)
  go_enter Tryz.func75, Tryz.ntmps75
  go_wp2_with fail
  refine bodyPost_ret (v := .tuple #[.agg #[.int .i64 1, .int .i64 0, .string ByteArray.empty, .slice none 0 0, .slice none 0 0, .slice none 0 0], .bool true]) (by rw [results_cell_tmp rfl]; go_simp; rfl) rfl ?_
  exact ⟨rfl, HB.out _⟩

set_option maxRecDepth 100000 in
set_option maxHeartbeats 800000 in
theorem fromGo_true (w : World) :
    Calls Tryz.prog 75 #[.iface 4 (.bool true)] w fun e w' => e = .returned (.tuple #[.agg #[.int .i64 2, .int .i64 0, .string ByteArray.empty, .slice none 0 0, .slice none 0 0, .slice none 0 0], .bool true]) ∧ Below w.heap.size w w' := by
  have a_bool := as_bool_bool
  have HB := Lib.hid (fun o => (Below.refl w.heap.size w).alloc (Nat.le_refl _) o)
  go_enter Tryz.func75, Tryz.ntmps75
  go_wp2_with fail
  refine bodyPost_ret (v := .tuple #[.agg #[.int .i64 2, .int .i64 0, .string ByteArray.empty, .slice none 0 0, .slice none 0 0, .slice none 0 0], .bool true]) (by rw [results_cell_tmp rfl]; go_simp; rfl) rfl ?_
  exact ⟨rfl, HB.out _⟩

set_option maxRecDepth 100000 in
set_option maxHeartbeats 800000 in
theorem fromGo_int (q h : Int) (hq : IntKind.i64.wrap (2 * q) = h) (c1 : -4611686018427387904 ≤ q) (c2 : q ≤ 4611686018427387903) (w : World) :
    Calls Tryz.prog 75 #[.iface 3 (.int .i64 q)] w fun e w' => e = .returned (.tuple #[.agg #[.int .i64 3, .int .i64 h, .string ByteArray.empty, .slice none 0 0, .slice none 0 0, .slice none 0 0], .bool true]) ∧ Below w.heap.size w w' := by
  have a_bool := as_int_bool
  have a_int := as_int_int
  have HB := Lib.hid (fun o => (Below.refl w.heap.size w).alloc (Nat.le_refl _) o)
  go_enter Tryz.func75, Tryz.ntmps75
  go_wp2_with fail
  refine bodyPost_ret (v := .tuple #[.agg #[.int .i64 3, .int .i64 h, .string ByteArray.empty, .slice none 0 0, .slice none 0 0, .slice none 0 0], .bool true]) (by rw [results_cell_tmp rfl]; go_simp; rfl) rfl ?_
  exact ⟨rfl, HB.out _⟩

set_option maxRecDepth 100000 in
set_option maxHeartbeats 800000 in
theorem fromGo_text (t : ByteArray) (w : World) :
    Calls Tryz.prog 75 #[.iface 9 (.string t)] w fun e w' => e = .returned (.tuple #[.agg #[.int .i64 4, .int .i64 0, .string t, .slice none 0 0, .slice none 0 0, .slice none 0 0], .bool true]) ∧ Below w.heap.size w w' := by
  have a_bool := as_str_bool
  have a_int := as_str_int
  have a_float := as_str_float
  have a_str := as_str_str
  have HB := Lib.hid (fun o => (Below.refl w.heap.size w).alloc (Nat.le_refl _) o)
  go_enter Tryz.func75, Tryz.ntmps75
  go_wp2_with fail
  refine bodyPost_ret (v := .tuple #[.agg #[.int .i64 4, .int .i64 0, .string t, .slice none 0 0, .slice none 0 0, .slice none 0 0], .bool true]) (by rw [results_cell_tmp rfl]; go_simp) rfl ?_
  exact ⟨rfl, HB.out _⟩

set_option maxRecDepth 100000 in
set_option maxHeartbeats 800000 in
theorem fromGo_half (h : Int) (h0 : h ≠ 0) (h1 : -9007199254740992 < h) (h2 : h < 9007199254740992) (w : World) :
    Calls Tryz.prog 75 #[.iface 86 (.float .f64 (halfF h))] w fun e w' => e = .returned (.tuple #[.agg #[.int .i64 3, .int .i64 h, .string ByteArray.empty, .slice none 0 0, .slice none 0 0, .slice none 0 0], .bool true]) ∧ Below w.heap.size w w' := by
  have hq : ∀ w, (binOp .mul 86 (.float .f64 4611686018427387904) (.float .f64 (halfF h))).run Tryz.prog w = .ok (.float .f64 (floatOfInt .f64 h)) w := fun w => run_float_arith w .mul 86 .f64 _ _ _ (twice_bits h h0 h1 h2)
  have HH := Lib.hid (fun W => half_any h W h0 h1 h2)
  have HB := Lib.hid (fun o => (Below.refl w.heap.size w).alloc (Nat.le_refl _) o)
  have a_bool := as_float_bool
  have a_int := as_float_int
  have a_float := as_float_float
  go_enter Tryz.func75, Tryz.ntmps75
  go_wp2_with fail
  refine (HH.out _).mono ?_
  rintro e w1 ⟨rfl, hb1⟩
  have HB1 := Lib.hid ((HB.out _).trans (hb1.mono (by simp)))
  obtain ⟨hc1, hf1⟩ := bcell hb1
  have hz1 := hb1.size
  simp at hz1
  clear hb1
  go_wp2_with fail
  refine bodyPost_ret (v := .tuple #[.agg #[.int .i64 3, .int .i64 h, .string ByteArray.empty, .slice none 0 0, .slice none 0 0, .slice none 0 0], .bool true]) (by rw [results_cell_tmp rfl]; go_simp) rfl ?_
  exact ⟨rfl, below_set (below_set (below_set (below_set (below_set (below_set HB1.out _ _) _ _) _ _) _ _) _ _) _ _⟩

/-- Values without parts come back as they are. -/
theorem fromGo_flat (y : RV) (x : Value) (w : World) (base : Nat) (hg : y.Good) (hs : y.Sized) (hy : y.Go w base x) (hk : ∀ k h t l ks vs, y = .mk k h t l ks vs → k ≠ 5 ∧ k ≠ 6) :
    Calls Tryz.prog 75 #[x] w (FromPost y w) := by
  obtain ⟨k, h, t, l, ks, vs⟩ := y
  obtain ⟨k5, k6⟩ := hk _ _ _ _ _ _ rfl
  obtain ⟨r3, r4, r5, r6, hk0, hk6, hh0, hh1, gl, gv⟩ := hg.rest
  have e5 := r5 k5
  obtain ⟨e6, e7⟩ := r6 k6
  subst e5 e6 e7
  have hpar : h % 2 = 0 ∨ (-9007199254740992 < h ∧ h < 9007199254740992) := by unfold RV.Good at hg; exact hg.2.2.2.2.2.2.2.2.2.1
  have ht : t.size ≤ reachN := by have := hs.2; unfold RV.bytes at this; unfold reachN; omega
  unfold RV.Go at hy
  rcases hy with ⟨rfl, rfl⟩ | ⟨rfl, rfl⟩ | ⟨rfl, rfl⟩ | ⟨rfl, rfl⟩ | ⟨rfl, rfl⟩ | ⟨rfl, _⟩ | ⟨rfl, _⟩
  · have e1 := r3 (by decide)
    have e2 := r4 (by decide)
    subst e1 e2
    exact (fromGo_null w).mono fun e w' ⟨he, hb⟩ => ⟨_, he, fun _ _ => rep_flat (by unfold I64; omega) (by unfold I64; omega) ht, hb⟩
  · have e1 := r3 (by decide)
    have e2 := r4 (by decide)
    subst e1 e2
    exact (fromGo_false w).mono fun e w' ⟨he, hb⟩ => ⟨_, he, fun _ _ => rep_flat (by unfold I64; omega) (by unfold I64; omega) ht, hb⟩
  · have e1 := r3 (by decide)
    have e2 := r4 (by decide)
    subst e1 e2
    exact (fromGo_true w).mono fun e w' ⟨he, hb⟩ => ⟨_, he, fun _ _ => rep_flat (by unfold I64; omega) (by unfold I64; omega) ht, hb⟩
  · have e2 := r4 (by decide)
    subst e2
    have hdm := Int.mul_tdiv_add_tmod h 2
    unfold numG
    split
    · rename_i hev
      rw [hev] at hdm
      exact (fromGo_int (h.tdiv 2) h (by rw [show 2 * h.tdiv 2 = h by omega]; exact IntWalk.i64_in _ (by omega)) (by omega) (by omega) w).mono fun e w' ⟨he, hb⟩ => ⟨_, he, fun _ _ => rep_flat (by unfold I64; omega) (by unfold I64; omega) ht, hb⟩
    · rename_i hodd
      have hb := hpar.resolve_left (fun e => hodd (Int.tmod_eq_zero_of_dvd (Int.dvd_of_emod_eq_zero e)))
      exact (fromGo_half h (by rintro rfl; exact hodd rfl) hb.1 hb.2 w).mono fun e w' ⟨he, hb⟩ => ⟨_, he, fun _ _ => rep_flat (by unfold I64; omega) (by unfold I64; omega) ht, hb⟩
  · have e1 := r3 (by decide)
    subst e1
    exact (fromGo_text t w).mono fun e w' ⟨he, hb⟩ => ⟨_, he, fun _ _ => rep_flat (by unfold I64; omega) (by unfold I64; omega) ht, hb⟩
  · exact absurd rfl k5
  · exact absurd rfl k6

/-- A result that is a value: the tree, and no error. -/
def ResIs (y : RV) (w : World) (r : Value) : Prop := ∃ k h t al n cl ak m ck av q cv, r = .agg #[.int .i64 k, .int .i64 h, .string t, .slice al n cl, .slice ak m ck, .slice av q cv, .int .i64 0] ∧
  y.Rep w (.agg #[.int .i64 k, .int .i64 h, .string t, .slice al n cl, .slice ak m ck, .slice av q cv])
def ResHere (base : Nat) (y : RV) (w : World) (r : Value) : Prop := ∀ wx, SameFrom base w wx → ResIs y wx r
theorem ResHere.same {base : Nat} {w w' : World} {v : Value} {y : RV} (h : ResHere base y w v) (hs : SameFrom base w w') (hz : w.heap.size ≤ w'.heap.size) : ResHere base y w' v :=
  fun wx hx => h wx fun k hb hk => (hx k hb (Nat.lt_of_lt_of_le hk hz)).trans (hs k hb hk)
theorem ResHere.mono {base base' : Nat} {w : World} {v : Value} {y : RV} (h : ResHere base y w v) (hb : base' ≤ base) : ResHere base' y w v := fun wx hx => h wx fun k hk => hx k (Nat.le_trans hb hk)
theorem ResHere.is {base : Nat} {w : World} {v : Value} {y : RV} (h : ResHere base y w v) : ResIs y w v := h w (SameFrom.refl _ _)
theorem ResHere.shape {base : Nat} {w : World} {v : Value} {y : RV} (h : ResHere base y w v) : ∃ k h t al n cl ak m ck av q cv, v = .agg #[.int .i64 k, .int .i64 h, .string t, .slice al n cl, .slice ak m ck, .slice av q cv, .int .i64 0] := by
  obtain ⟨k, h, t, al, n, cl, ak, m, ck, av, q, cv, e, _⟩ := h.is
  exact ⟨k, h, t, al, n, cl, ak, m, ck, av, q, cv, e⟩
def ResPost (y : RV) (w : World) (e : Ending) (w' : World) : Prop := ∃ r, e = .returned r ∧ ResHere w.heap.size y w' r ∧ Below w.heap.size w w'

set_option maxRecDepth 100000 in
set_option maxHeartbeats 1600000 in
theorem result_any (y : RV) (x : Value) (w : World) (base : Nat) (hy : y.Go w base x) (hf : ∀ w', Below w.heap.size w w' → Calls Tryz.prog 75 #[x] w' (FromPost y w')) :
    Calls Tryz.prog 36 #[x] w (ResPost y w) := by
  unfold ResPost
  have HF := Lib.hid (fun o => hf _ ((Below.refl _ _).alloc (Nat.le_refl _) o))
  clear hf
  have HB := Lib.hid (fun o => (Below.refl w.heap.size w).alloc (Nat.le_refl _) o)
  have hsh : x = .nilIface ∨ (∃ v, x = .iface 4 v) ∨ (∃ v, x = .iface 3 v) ∨ (∃ v, x = .iface 86 v) ∨ (∃ v, x = .iface 9 v) ∨ (∃ v, x = .iface 87 v) ∨ (∃ v, x = .iface 90 v) := by
    obtain ⟨k, h, t, l, ks, vs⟩ := y
    unfold RV.Go at hy
    rcases hy with ⟨_, e⟩ | ⟨_, e⟩ | ⟨_, e⟩ | ⟨_, e⟩ | ⟨_, e⟩ | ⟨_, a, cap, e, _⟩ | ⟨_, r, n, xs, e, _⟩
    · exact .inl e
    · exact .inr (.inl ⟨_, e⟩)
    · exact .inr (.inl ⟨_, e⟩)
    · unfold numG at e
      split at e
      · exact .inr (.inr (.inl ⟨_, e⟩))
      · exact .inr (.inr (.inr (.inl ⟨_, e⟩)))
    · exact .inr (.inr (.inr (.inr (.inl ⟨_, e⟩))))
    · exact .inr (.inr (.inr (.inr (.inr (.inl ⟨_, e⟩)))))
    · exact .inr (.inr (.inr (.inr (.inr (.inr ⟨_, e⟩)))))
  clear hy
  have ha : ∀ w, (Instr.typeAssert x 20 60 true).run Tryz.prog w = .ok (.tuple #[.nilIface, .bool false]) w := by
    rcases hsh with rfl | ⟨v, rfl⟩ | ⟨v, rfl⟩ | ⟨v, rfl⟩ | ⟨v, rfl⟩ | ⟨v, rfl⟩ | ⟨v, rfl⟩
    · exact as_nil_error
    · exact as_bool_error v
    · exact as_int_error v
    · exact as_float_error v
    · exact as_str_error v
    · exact as_list_error v
    · exact as_map_error v
  clear hsh
  go_enter Tryz.func36, Tryz.ntmps36
  go_wp2_with fail
  refine (HF.out _).mono ?_
  rintro e w1 ⟨v, rfl, hr, hb1⟩
  have HB1 := Lib.hid ((HB.out _).trans (hb1.mono (by simp)))
  have HR := Lib.hid hr
  obtain ⟨k, h, t, al, n, cl, ak, m, ck, av, q, cv, rfl⟩ : ∃ k h t al n cl ak m ck av q cv, v = .agg #[.int .i64 k, .int .i64 h, .string t, .slice al n cl, .slice ak m ck, .slice av q cv] := by
    have hr' := hr.rep
    obtain ⟨k, h, t, l, ks, vs⟩ := y
    unfold RV.Rep at hr'
    obtain ⟨al, cl, ak, ck, av, cv, e, _⟩ := hr'
    exact ⟨_, _, _, _, _, _, _, _, _, _, _, _, e⟩
  clear hr
  obtain ⟨hc1', hf1'⟩ := bcell hb1
  have hz1 := hb1.size
  simp at hz1
  clear hb1
  have hy1 : w.heap.size < w1.heap.size := by omega
  have hy2 : w.heap.size ≠ w1.heap.size := by omega
  have hc1 := fun o => hc1' w.heap.size o (by simp)
  have hf1 := fun o => hf1' w.heap.size o (by simp)
  clear hc1' hf1'
  go_wp2_with fail
  refine bodyPost_ret (v := .agg #[.int .i64 k, .int .i64 h, .string t, .slice al n cl, .slice ak m ck, .slice av q cv, .int .i64 0]) (by rw [results_cell rfl]; go_simp) rfl ?_
  have fin : ∀ wx, w1.grownBy wx (some w.heap.size) → (∃ r, Ending.returned (.agg #[.int .i64 k, .int .i64 h, .string t, .slice al n cl, .slice ak m ck, .slice av q cv, .int .i64 0]) = Ending.returned r ∧ ResHere w.heap.size y wx r ∧ Below w.heap.size w wx) := fun wx hgb => by
    refine ⟨_, rfl, fun wy hx => ⟨_, _, _, _, _, _, _, _, _, _, _, _, rfl, HR.out wy fun kk hb hk => ?_⟩, below_gb HB1.out hgb HB1.out.size (Nat.le_refl _)⟩
    have hb' : w.heap.size + 1 ≤ kk := by simpa using hb
    exact (hx kk (by omega) (Nat.lt_of_lt_of_le hk hgb.size)).trans (hgb.block kk hk (fun e => by injection e; omega))
  with_reducible refine fin _ ?_
  repeat' (with_reducible first | exact World.grownBy.refl _ _ | refine gb_alloc ?_ _ | refine gb_set ?_ _ _)

/-- The law's own comparison: an answer that is the value. -/
theorem same_same (x : RV) (va vb : Value) (w : World) (hg : x.Good) (hx : x.Rep w va) (hy : x.Rep w vb) :
    Calls Tryz.prog 15 #[va, vb] w fun e w' => e = .returned (.bool true) ∧ Below w.heap.size w w' :=
  (same_any x x va vb w hg hg hx hy).mono fun e w' ⟨⟨b, he, hb⟩, h2⟩ => by
    have : b = true := hb.2 rfl
    subst this
    exact ⟨he, h2⟩

set_option maxRecDepth 100000 in
set_option maxHeartbeats 800000 in
theorem told_any (x : RV) (r v : Value) (w : World) (hg : x.Good) (hr : ResIs x w r) (hv : x.Rep w v) :
    Calls Tryz.prog 10 #[r, v, .int .i64 0] w fun e w' => e = .returned (.bool true) ∧ Below w.heap.size w w' := by
  obtain ⟨k, h, t, al, n, cl, ak, m, ck, av, q, cv, rfl, hx⟩ := hr
  have HB := Lib.hid (fun o o' => ((Below.refl w.heap.size w).alloc (Nat.le_refl _) o).alloc (by simp) o')
  have HS := Lib.hid (fun wx (hb : Below w.heap.size w wx) => same_same x _ _ wx hg (hx.below hb) (hv.below hb))
  obtain ⟨k', h', t', l', ks', vs'⟩ := x
  unfold RV.Rep at hv
  obtain ⟨al', cl', ak', ck', av', cv', rfl, _⟩ := hv
  clear hx hg
  go_enter Tryz.func10, Tryz.ntmps10
  go_wp2_with (go_at_call 15; refine (HS.out _ (HB.out _ _)).mono ?_; rintro e w3 ⟨rfl, hb3⟩; have HB3 := Lib.hid ((HB.out _ _).trans (hb3.mono (by simp; omega))); clear hb3)
  go_ret
  exact ⟨rfl, HB3.out⟩

set_option maxRecDepth 100000 in
set_option maxHeartbeats 800000 in
theorem given_any (x : RV) (r v : Value) (w : World) (hg : x.Good) (hr : ResIs x w r) (hv : x.Rep w v) :
    Calls Tryz.prog 23 #[r, v] w fun e w' => e = .returned (.bool true) ∧ Below w.heap.size w w' := by
  have hT := fun wx (hb : Below w.heap.size w wx) => told_any x r v wx hg (by obtain ⟨k, h, t, al, n, cl, ak, m, ck, av, q, cv, e, hx⟩ := hr; exact ⟨k, h, t, al, n, cl, ak, m, ck, av, q, cv, e, hx.below hb⟩) (hv.below hb)
  obtain ⟨k, h, t, al, n, cl, ak, m, ck, av, q, cv, rfl, hx⟩ := hr
  obtain ⟨k', h', t', l', ks', vs'⟩ := x
  unfold RV.Rep at hv
  obtain ⟨al', cl', ak', ck', av', cv', rfl, _⟩ := hv
  have HB := Lib.hid (fun o o' => ((Below.refl w.heap.size w).alloc (Nat.le_refl _) o).alloc (by simp) o')
  have HT := Lib.hid hT
  clear hx hg hT
  go_enter Tryz.func23, Tryz.ntmps23
  go_wp2_with (go_at_call 10; refine (HT.out _ (HB.out _ _)).mono ?_; rintro e w3 ⟨rfl, hb3⟩; have HB3 := Lib.hid ((HB.out _ _).trans (hb3.mono (by simp; omega))); clear hb3)
  go_ret
  exact ⟨rfl, HB3.out⟩
end Go.Proofs.YtjpcdbopioblaaaGreatDoor

/- The thin package's way back walked: lists. -/
namespace Go.Proofs.YtjpcdbopioblaaaGreatDoor
open Go.RowKit

/-- An element that came back: its cells, and that it lies in blocks of its own. -/
def Elem (lo : Nat) (w : World) (own : Option Nat) (y : RV) (cs : List Value) : Prop :=
  ∃ c0 c1 c2 c3 c4 c5 a b, cs = [c0, c1, c2, c3, c4, c5] ∧ lo ≤ a ∧ b ≤ w.heap.size ∧ (∀ g, own = some g → ¬ (a ≤ g ∧ g < b)) ∧
    ∀ wx, (∀ i, a ≤ i → i < b → wx.heap[i]? = w.heap[i]?) → y.Rep wx (.agg #[c0, c1, c2, c3, c4, c5])

theorem Elem.step {lo : Nat} {w w' : World} {own own' : Option Nat} {y : RV} {cs : List Value} (h : Elem lo w own y cs) (hw : ∀ k, lo ≤ k → k < w.heap.size → some k ≠ own → w'.heap[k]? = w.heap[k]?) (hz : w.heap.size ≤ w'.heap.size)
    (ho : own' = own ∨ ∃ g, own' = some g ∧ w.heap.size ≤ g) : Elem lo w' own' y cs := by
  obtain ⟨c0, c1, c2, c3, c4, c5, a, b, e, ha, hb, hg, hr⟩ := h
  refine ⟨c0, c1, c2, c3, c4, c5, a, b, e, ha, by omega, ?_, fun wx hx => hr wx fun i h1 h2 => ?_⟩
  · intro g hgo
    rcases ho with rfl | ⟨g', rfl, hg'⟩
    · exact hg g hgo
    · injection hgo with hgo; omega
  · rw [hx i h1 h2]
    exact hw i (by omega) (by omega) (fun e => hg i e.symm ⟨h1, h2⟩)

theorem RV.RepL.of {w : World} {b o : Nat} : ∀ (l : List RV) (i : Nat), (∀ (j : Nat) (_ : j < l.length), ∃ c0 c1 c2 c3 c4 c5, w.cell? ⟨b, o + (i + j) * 6, none⟩ = some c0 ∧ w.cell? ⟨b, o + (i + j) * 6 + 1, none⟩ = some c1 ∧ w.cell? ⟨b, o + (i + j) * 6 + 2, none⟩ = some c2 ∧
      w.cell? ⟨b, o + (i + j) * 6 + 3, none⟩ = some c3 ∧ w.cell? ⟨b, o + (i + j) * 6 + 4, none⟩ = some c4 ∧ w.cell? ⟨b, o + (i + j) * 6 + 5, none⟩ = some c5 ∧ l[j].Rep w (.agg #[c0, c1, c2, c3, c4, c5])) → RV.RepL w (some ⟨b, o, none⟩) i l
  | [], _, _ => by unfold RV.RepL; trivial
  | y :: ys, i, h => by
    unfold RV.RepL
    obtain ⟨c0, c1, c2, c3, c4, c5, k0, k1, k2, k3, k4, k5, hr⟩ := h 0 (by simp)
    refine ⟨⟨b, o, c0, c1, c2, c3, c4, c5, rfl, by simpa using k0, by simpa using k1, by simpa using k2, by simpa using k3, by simpa using k4, by simpa using k5, by simpa using hr⟩, RV.RepL.of ys (i + 1) fun j hj => ?_⟩
    obtain ⟨c0, c1, c2, c3, c4, c5, k0, k1, k2, k3, k4, k5, hr⟩ := h (j + 1) (by simpa using hj)
    rw [show i + (j + 1) = i + 1 + j by omega] at k0 k1 k2 k3 k4 k5
    exact ⟨c0, c1, c2, c3, c4, c5, k0, k1, k2, k3, k4, k5, by simpa using hr⟩

/-- A row of values that has been filled so far: the values of the first i elements of l. -/
def RowOf (lo : Nat) (w : World) (sl : Value) (l : List RV) (i : Nat) : Prop :=
  ∃ xs : List Value, w.ownsRow lo 27 6 sl i xs ∧ ∀ (j : Nat) (_ : j < i) (h : j < l.length), Elem lo w sl.ownBlock l[j] ((xs.drop (j * 6)).take 6)

theorem RowOf.lt {lo : Nat} {w : World} {sl : Value} {l : List RV} {i : Nat} (h : RowOf lo w sl l i) : ∀ k, sl.ownBlock = some k → lo ≤ k ∧ k < w.heap.size := by
  obtain ⟨xs, h1, _⟩ := h; exact h1.lt
theorem RowOf.step {lo : Nat} {w w' : World} {sl : Value} {l : List RV} {i : Nat} (h : RowOf lo w sl l i) (hw : ∀ k, lo ≤ k → k < w.heap.size → w'.heap[k]? = w.heap[k]?) (hz : w.heap.size ≤ w'.heap.size) : RowOf lo w' sl l i := by
  obtain ⟨xs, h1, h2⟩ := h
  refine ⟨xs, ⟨h1.1, ?_⟩, fun j hj hl => (h2 j hj hl).step (fun k hk hk2 _ => hw k hk hk2) hz (.inl rfl)⟩
  rcases h1.2 with hn | ⟨g, cap, cur, e, hb, hg, rest⟩
  · exact .inl hn
  · exact .inr ⟨g, cap, cur, e, hb, (hw g hb (Array.getElem?_eq_some_iff.1 hg).1).trans hg, rest⟩

/-- The row behind an append of one more value. -/
theorem RowOf.push {lo : Nat} {w w' : World} {sl sl' : Value} {l : List RV} {i : Nat} {c0 c1 c2 c3 c4 c5 : Value} (h : RowOf lo w sl l i) (hi : i < l.length) (he : Elem lo w sl.ownBlock l[i] [c0, c1, c2, c3, c4, c5])
    (xs : List Value) (hx : ∀ (j : Nat) (_ : j < i) (h : j < l.length), Elem lo w sl.ownBlock l[j] ((xs.drop (j * 6)).take 6)) (hl : xs.length = i * 6)
    (hown : w'.ownsRow lo 27 6 sl' (i + 1) (xs ++ [c0, c1, c2, c3, c4, c5])) (hg : w.grownBy w' sl.ownBlock) (ho : sl'.ownBlock = sl.ownBlock ∨ sl'.ownBlock = some w.heap.size) : RowOf lo w' sl' l (i + 1) := by
  have ho' : sl'.ownBlock = sl.ownBlock ∨ ∃ g, sl'.ownBlock = some g ∧ w.heap.size ≤ g := ho.imp id fun e => ⟨_, e, Nat.le_refl _⟩
  refine ⟨_, hown, fun j hj hjl => ?_⟩
  rcases Nat.lt_or_ge j i with hji | hji
  · rw [List.drop_append_of_le_length (by omega), List.take_append_of_le_length (by simp; omega)]
    exact (hx j hji hjl).step (fun k _ hk hne => hg.block k hk hne) hg.size ho'
  · have : j = i := by omega
    subst this
    rw [List.drop_append, List.drop_eq_nil_of_le (by omega), hl, Nat.sub_self]
    exact he.step (fun k _ hk hne => hg.block k hk hne) hg.size ho'

/-- The row, full, is the list. -/
theorem RowOf.repL {lo : Nat} {w : World} {sl : Value} {l : List RV} (h : RowOf lo w sl l l.length) : ∃ a cap, sl = .slice a l.length cap ∧ ∀ wx, SameFrom lo w wx → RV.RepL wx a 0 l := by
  obtain ⟨xs, hown, hel⟩ := h
  have hlen := hown.1
  have hcell := fun g => hown.cells (g := g)
  rcases hown.2 with ⟨rfl, h0⟩ | ⟨g, cap, cur, rfl, hb, hg, hn, _, _, _⟩
  · have : l = [] := List.eq_nil_of_length_eq_zero h0
    subst this
    exact ⟨none, 0, rfl, fun _ _ => by unfold RV.RepL; trivial⟩
  · refine ⟨_, cap, rfl, fun wx hx => RV.RepL.of l 0 fun j hj => ?_⟩
    obtain ⟨c0, c1, c2, c3, c4, c5, a, b, e, ha, hb2, hgo, hr⟩ := hel j hj hj
    have hglt := (Array.getElem?_eq_some_iff.1 hg).1
    have get : ∀ (k : Nat) (c : Value), ([c0, c1, c2, c3, c4, c5] : List Value)[k]? = some c → wx.cell? ⟨g, 0 + (0 + j) * 6 + k, none⟩ = some c := by
      intro k c hk
      have hk6 : k < 6 := by
        rcases Nat.lt_or_ge k 6 with h | h
        · exact h
        · rw [List.getElem?_eq_none (by simpa using h)] at hk; cases hk
      have h1 : xs[j * 6 + k]? = some c := by
        rw [← e, List.getElem?_take, if_pos hk6, List.getElem?_drop] at hk
        exact hk
      have h2 := hcell g rfl (j * 6 + k) c h1
      have e2 : (⟨g, 0, none⟩ : Addr).add (j * 6 + k) = ⟨g, 0 + (0 + j) * 6 + k, none⟩ := by unfold Addr.add; split <;> simp_all
      rw [e2] at h2
      exact (World.cell?_of_block (hx g hb hglt)).trans h2
    exact ⟨c0, c1, c2, c3, c4, c5, get 0 _ rfl, get 1 _ rfl, get 2 _ rfl, get 3 _ rfl, get 4 _ rfl, get 5 _ rfl, hr wx fun i h1 h2 => hx i (by omega) (by omega)⟩
end Go.Proofs.YtjpcdbopioblaaaGreatDoor

/- The thin package's way back walked: listFromGo. -/
namespace Go.Proofs.YtjpcdbopioblaaaGreatDoor
open Go.RowKit

theorem Tryz.infoValue : (Tryz.prog.info? 27).map (fun i => (i.zero, i.size, i.bytes)) = some (some (.agg #[.int .i64 0, .int .i64 0, .string ByteArray.empty, .slice none 0 0, .slice none 0 0, .slice none 0 0]), 6, 104) := by kernel_rfl

theorem cell_six_new (w : World) (c0 c1 c2 c3 c4 c5 : Value) (t : TypeId) : ∀ j u, [c0, c1, c2, c3, c4, c5][j]? = some u → (w.alloc (.cells #[c0, c1, c2, c3, c4, c5] t)).cell? ((⟨w.heap.size, 0, none⟩ : Addr).add j) = some u := by
  intro j u hj
  match j, hj with
  | 0, hj => simp at hj; subst hj; simp [Addr.add]
  | 1, hj => simp at hj; subst hj; simp [Addr.add]
  | 2, hj => simp at hj; subst hj; simp [Addr.add]
  | 3, hj => simp at hj; subst hj; simp [Addr.add]
  | 4, hj => simp at hj; subst hj; simp [Addr.add]
  | 5, hj => simp at hj; subst hj; simp [Addr.add]
  | (j + 6), hj => simp at hj

/-- The way back, up to so many nodes. -/
def FromIH (n : Nat) : Prop := ∀ (y : RV) (x : Value) (w : World) (base : Nat), y.nodes ≤ n → y.Good → y.Sized → y.Go w base x → Calls Tryz.prog 75 #[x] w (FromPost y w)

/-- The list that is being made. -/
structure OutL (w : World) (l : List RV) (i : Nat) (sl : Value) (wr : World) : Prop where
  below : Below w.heap.size w wr
  lt : w.heap.size + 1 < wr.heap.size
  row : RowOf (w.heap.size + 2) wr sl l i
  cells : ∀ o, wr.cell? ⟨w.heap.size + 1, o, none⟩ = (#[.int .i64 5, .int .i64 0, .string ByteArray.empty, sl, .slice none 0 0, .slice none 0 0] : Array Value)[o]?
  frozen : ∀ o, wr.frozen? ⟨w.heap.size + 1, o, none⟩ = false
  res : ∀ o, wr.cell? ⟨w.heap.size, o, none⟩ = (#[.int .i64 0, .int .i64 0, .string ByteArray.empty, .slice none 0 0, .slice none 0 0, .slice none 0 0] : Array Value)[o]?
  rfrozen : ∀ o, wr.frozen? ⟨w.heap.size, o, none⟩ = false

theorem OutL.push {w wr w1 W2 w3 : World} {l : List RV} {i : Nat} {sl sl' c0 c1 c2 c3 c4 c5 : Value} (h : OutL w l i sl wr) (hi : i < l.length) (hb1 : Below wr.heap.size wr w1) (hh : l[i].Here wr.heap.size w1 (.agg #[c0, c1, c2, c3, c4, c5]))
    (hbW : Below w1.heap.size w1 W2) (xs : List Value) (hown : W2.ownsRow (w.heap.size + 2) 27 6 sl i xs) (hel : ∀ (j : Nat) (_ : j < i) (h : j < l.length), Elem (w.heap.size + 2) W2 sl.ownBlock l[j] ((xs.drop (j * 6)).take 6))
    (hown' : w3.ownsRow (w.heap.size + 2) 27 6 sl' (i + 1) (xs ++ [c0, c1, c2, c3, c4, c5])) (hg3 : W2.grownBy w3 sl.ownBlock) (hwh : sl'.ownBlock = sl.ownBlock ∨ sl'.ownBlock = some W2.heap.size) :
    OutL w l (i + 1) sl' (w3.setCell ⟨w.heap.size + 1, 3, none⟩ sl') := by
  have hlt := h.lt
  have z1 := hb1.size
  have z2 := hbW.size
  have z3 := hg3.size
  have hne : ∀ g, g < w.heap.size + 2 → some g ≠ sl.ownBlock := fun g hg e => by have := (h.row.lt _ e.symm).1; omega
  have hb2 : Below w.heap.size w W2 := (h.below.trans (hb1.mono h.below.size)).trans (hbW.mono (Nat.le_trans h.below.size z1))
  have hb3 : Below w.heap.size w w3 := hb2.grown hg3 hb2.size (fun g e => by have := (h.row.lt g e).1; omega)
  have heap : ∀ g, g < w.heap.size + 2 → w3.heap[g]? = wr.heap[g]? := fun g hg =>
    ((hg3.block g (by omega) (hne g hg)).trans (hbW.block g (by omega))).trans (hb1.block g (by omega))
  have cell : ∀ g o, g < w.heap.size + 2 → w3.cell? ⟨g, o, none⟩ = wr.cell? ⟨g, o, none⟩ := fun g o hg => World.cell?_of_block (heap g hg)
  have froz : ∀ g o, g < w.heap.size + 2 → w3.frozen? ⟨g, o, none⟩ = wr.frozen? ⟨g, o, none⟩ := fun g o hg => World.frozen?_of_block (heap g hg)
  have other : ∀ g, g ≠ w.heap.size + 1 → (w3.setCell ⟨w.heap.size + 1, 3, none⟩ sl').heap[g]? = w3.heap[g]? := fun g hg => Below.heap_setCell w3 ⟨w.heap.size + 1, 3, none⟩ sl' g hg
  have hrow : RowOf (w.heap.size + 2) w3 sl' l (i + 1) := RowOf.push ⟨xs, hown, hel⟩ hi ⟨c0, c1, c2, c3, c4, c5, wr.heap.size, w1.heap.size, rfl, by omega, by omega, fun g hg e => by have := (h.row.lt g hg).2; omega, fun wx hx => hh wx fun kk h1 h2 => (hx kk h1 h2).trans (hbW.block kk h2)⟩ xs hel hown.1 hown' hg3 hwh
  have hsz : (w3.setCell ⟨w.heap.size + 1, 3, none⟩ sl').heap.size = w3.heap.size := by simp [World.setCell]
  refine ⟨hb3.setCell (Nat.le_succ _) sl', by rw [hsz]; omega, hrow.step (fun k hk _ => other k (by omega)) (by rw [hsz]; exact Nat.le_refl _), fun o => ?_, fun o => ?_, fun o => ?_, fun o => ?_⟩
  · by_cases ho : o = 3
    · subst ho
      rw [World.cell?_setCell_same _ _ _ ((cell (w.heap.size + 1) 3 (by omega)).trans (h.cells 3))]
      rfl
    · rw [World.cell?_setCell_other _ _ _ _ (by intro e; injection e with _ e2; exact ho e2.symm), cell (w.heap.size + 1) o (by omega), h.cells o]
      match o, ho with
      | 0, _ => rfl
      | 1, _ => rfl
      | 2, _ => rfl
      | 4, _ => rfl
      | 5, _ => rfl
      | (n + 6), _ => simp
  · rw [World.frozen?_setCell, froz (w.heap.size + 1) o (by omega)]; exact h.frozen o
  · rw [World.cell?_of_block (other w.heap.size (by omega)), cell w.heap.size o (by omega)]; exact h.res o
  · rw [World.frozen?_of_block (other w.heap.size (by omega)), froz w.heap.size o (by omega)]; exact h.rfrozen o

theorem OutL.start (w : World) (l : List RV) : OutL w l 0 (.slice none 0 0) ((w.alloc (.cells #[.int .i64 0, .int .i64 0, .string ByteArray.empty, .slice none 0 0, .slice none 0 0, .slice none 0 0] 27)).alloc (.cells #[.int .i64 5, .int .i64 0, .string ByteArray.empty, .slice none 0 0, .slice none 0 0, .slice none 0 0] 27)) := by
  refine ⟨((Below.refl w.heap.size w).alloc (Nat.le_refl _) _).alloc (by simp) _, by simp, ⟨[], World.ownsRow_nil _ _ _ _, fun j hj => absurd hj (Nat.not_lt_zero _)⟩, fun o => ?_, fun o => ?_, fun o => ?_, fun o => ?_⟩
  · have e : (w.alloc (.cells #[.int .i64 0, .int .i64 0, .string ByteArray.empty, .slice none 0 0, .slice none 0 0, .slice none 0 0] 27)).heap.size = w.heap.size + 1 := by simp
    rw [← e]
    exact cell_of_row _ _ o _ 27 (0, 0) (heap_alloc_new _ _)
  · simp
  · exact cell_of_row _ _ o _ 27 (0, 0) ((Go.heap_alloc_old (w.alloc (.cells #[.int .i64 0, .int .i64 0, .string ByteArray.empty, .slice none 0 0, .slice none 0 0, .slice none 0 0] 27)) _ (r := w.heap.size) (by simp)).trans (heap_alloc_new _ _))
  · simp

set_option maxRecDepth 100000 in
set_option maxHeartbeats 4000000 in
theorem listFromGo_any (n : Nat) (ih : FromIH n) (l : List RV) (a : Option Addr) (cap : Nat) (w : World) (base : Nat) (hn : RV.nodesL l ≤ n) (hg : RV.GoodL l) (hs : ∀ (j : Nat) (h : j < l.length), l[j].Sized) (hl : l.length ≤ 100000) (hy : RV.GoL w base a 0 l) :
    Calls Tryz.prog 125 #[.slice a l.length cap] w (FromPost (.mk 5 0 ByteArray.empty l [] []) w) := by
  have HY := Lib.hid hy
  have HG := Lib.hid hg
  have HS := Lib.hid hs
  have HN := Lib.hid hn
  have HIH := Lib.hid ih
  clear hy hg hs hn ih
  unfold FromPost
  go_enter Tryz.func125, Tryz.ntmps125
  go_wp2_with fail
  go_loopg [12] (l.length) (fun gk s12 wr => ∃ (i : Nat) (sl : Value), s12 = .int .i64 i ∧ i ≤ l.length ∧ gk = l.length - i ∧ Hid (OutL w l i sl wr))
  case atStart =>
    refine ⟨0, .slice none 0 0, rfl, Nat.zero_le _, rfl, Lib.hid ?_⟩
    exact OutL.start w l
  case round =>
    obtain ⟨i, sl, rfl, hi, rfl, HR⟩ := hrel
    by_cases hlt : i < l.length
    · obtain ⟨ab, ao, x, rfl, hab, ga, hgx⟩ := (HY.out.same (SameFrom.of_below HR.out.below base)).get i hlt
      simp only [Nat.zero_add] at ga
      have HGX := Lib.hid hgx
      have hj1 : (i : Int) < (l.length : Int) := by omega
      clear hgx hi
      go_wp2_with fail
      refine (HIH.out l[i] x wr base (by have := RV.nodes_le hlt; have := HN.out; omega) (HG.out.get i hlt) (HS.out i hlt) HGX.out).mono ?_
      rintro e w1 ⟨v, rfl, hh, hb1⟩
      obtain ⟨k, h, t, al, m, cl, ak, mk, ck, av, mv, cv, rfl⟩ : ∃ k h t al n cl ak m ck av q cv, v = .agg #[.int .i64 k, .int .i64 h, .string t, .slice al n cl, .slice ak m ck, .slice av q cv] := by
        have hr' := hh.rep
        generalize l[i] = y at hr'
        obtain ⟨k, h, t, l, ks, vs⟩ := y
        unfold RV.Rep at hr'
        obtain ⟨al, cl, ak, ck, av, cv, e, _⟩ := hr'
        exact ⟨_, _, _, _, _, _, _, _, _, _, _, _, e⟩
      have HH := Lib.hid hh
      have HB1 := Lib.hid hb1
      have hO : w.heap.size + 1 < wr.heap.size := HR.out.lt
      have hz1 : wr.heap.size ≤ w1.heap.size := hb1.size
      have q3 : w1.cell? ⟨w.heap.size + 1, 3, none⟩ = some sl := ((bcell hb1).1 _ _ hO).trans (HR.out.cells 3)
      have f3 : w1.frozen? ⟨w.heap.size + 1, 3, none⟩ = false := ((bcell hb1).2 _ _ hO).trans (HR.out.frozen 3)
      have hO1 : w.heap.size + 1 < w1.heap.size := by omega
      have hO2 : w.heap.size + 1 ≠ w1.heap.size := by omega
      have hO3 : w.heap.size + 1 ≠ w1.heap.size + 1 := by omega
      obtain ⟨i0, hi0, hz0, hzs, hzb⟩ := info_parts Tryz.infoValue
      have HI := Lib.hid (And.intro hi0 (And.intro hz0 (And.intro hzs hzb)))
      have hrow2 := HR.out.row.step (w' := (w1.alloc (.cells #[.int .i64 k, .int .i64 h, .string t, .slice al m cl, .slice ak mk ck, .slice av mv cv] 27)).alloc (.cells #[.int .i64 k, .int .i64 h, .string t, .slice al m cl, .slice ak mk ck, .slice av mv cv] 27)) (fun kk _ hk => (((Below.refl w1.heap.size w1).alloc (Nat.le_refl _) (.cells #[.int .i64 k, .int .i64 h, .string t, .slice al m cl, .slice ak mk ck, .slice av mv cv] 27)).alloc (by simp) (.cells #[.int .i64 k, .int .i64 h, .string t, .slice al m cl, .slice ak mk ck, .slice av mv cv] 27) |>.block kk (by omega)).trans (hb1.block kk hk)) (by simp; omega)
      obtain ⟨xs, hown, hel⟩ := hrow2
      have HOWN := Lib.hid hown
      have HEL := Lib.hid hel
      have hnew : ∀ j u, ([.int .i64 k, .int .i64 h, .string t, .slice al m cl, .slice ak mk ck, .slice av mv cv] : List Value)[j]? = some u → ((w1.alloc (.cells #[.int .i64 k, .int .i64 h, .string t, .slice al m cl, .slice ak mk ck, .slice av mv cv] 27)).alloc (.cells #[.int .i64 k, .int .i64 h, .string t, .slice al m cl, .slice ak mk ck, .slice av mv cv] 27)).cell? ((⟨w1.heap.size + 1, 0, none⟩ : Addr).add j) = some u := by
        have hq := cell_six_new (w1.alloc (.cells #[.int .i64 k, .int .i64 h, .string t, .slice al m cl, .slice ak mk ck, .slice av mv cv] 27)) (.int .i64 k) (.int .i64 h) (.string t) (.slice al m cl) (.slice ak mk ck) (.slice av mv cv) 27
        have e : (w1.alloc (.cells #[.int .i64 k, .int .i64 h, .string t, .slice al m cl, .slice ak mk ck, .slice av mv cv] 27)).heap.size = w1.heap.size + 1 := by simp
        rw [e] at hq; exact hq
      have HNEW := Lib.hid hnew
      have HLT := Lib.hid hown.lt
      have hne : some (w.heap.size + 1) ≠ sl.ownBlock := fun e => by have := (hown.lt _ e.symm).1; omega
      have hbW : Below w1.heap.size w1 ((w1.alloc (.cells #[.int .i64 k, .int .i64 h, .string t, .slice al m cl, .slice ak mk ck, .slice av mv cv] 27)).alloc (.cells #[.int .i64 k, .int .i64 h, .string t, .slice al m cl, .slice ak mk ck, .slice av mv cv] 27)) := ((Below.refl w1.heap.size w1).alloc (Nat.le_refl _) _).alloc (by simp) _
      have hFacts : ∀ w3, ((w1.alloc (.cells #[.int .i64 k, .int .i64 h, .string t, .slice al m cl, .slice ak mk ck, .slice av mv cv] 27)).alloc (.cells #[.int .i64 k, .int .i64 h, .string t, .slice al m cl, .slice ak mk ck, .slice av mv cv] 27)).grownBy w3 sl.ownBlock → w3.cell? ⟨w.heap.size + 1, 3, none⟩ = some sl ∧ w3.frozen? ⟨w.heap.size + 1, 3, none⟩ = false := fun w3 hg3 =>
        ⟨hg3.cell (((bcell hbW).1 _ _ hO1).trans q3) hne, (World.frozen?_of_block (hg3.block (w.heap.size + 1) (Nat.lt_of_lt_of_le hO1 hbW.size) hne)).trans (((bcell hbW).2 _ _ hO1).trans f3)⟩
      have HBW := Lib.hid hbW
      have HF := Lib.hid hFacts
      clear hh hb1 hi0 hz0 hzs hzb hown hel hnew hne hFacts hbW
      go_wp2_with (at_builtin; refine wpList_append_where _ rfl _ _ 22 rfl (w.heap.size + 2) 27 i0 (.agg #[.int .i64 0, .int .i64 0, .string ByteArray.empty, .slice none 0 0, .slice none 0 0, .slice none 0 0]) 6 104 Tryz.underlying22 HI.out.1 HI.out.2.1 HI.out.2.2.1 HI.out.2.2.2 rfl (by decide) sl i xs rfl HOWN.out ⟨w1.heap.size + 1, 0, none⟩ 1 1 [.int .i64 k, .int .i64 h, .string t, .slice al m cl, .slice ak mk ck, .slice av mv cv] rfl rfl HNEW.out (fun x hx => by simp at hx; rcases hx with rfl | rfl | rfl | rfl | rfl | rfl <;> rfl) (by decide) (by unfold maxLen; omega) (by omega) (by simp; omega) ?_; intro v' w3 hown' hgrow3 hwhere; obtain ⟨hc3, hf3⟩ := HF.out w3 hgrow3; have HO3 := Lib.hid hown'; have HG3 := Lib.hid (And.intro hgrow3 hwhere); obtain ⟨va, vn, vc, rfl⟩ : ∃ a n c, v' = .slice a n c := (by rcases hown'.2 with ⟨e, _⟩ | ⟨g, cp, cu, e, _⟩ <;> exact ⟨_, _, _, e⟩); clear hown' hgrow3 hwhere HF)
      go_roundg (l.length - (i + 1))
      case measure => omega
      case rel =>
        refine ⟨i + 1, .slice va vn vc, by go_num, by omega, rfl, Lib.hid ?_⟩
        exact OutL.push HR.out hlt HB1.out HH.out HBW.out xs HOWN.out HEL.out HO3.out HG3.out.1 HG3.out.2
    · have hil : i = l.length := by omega
      subst hil
      obtain ⟨sa, scap, rfl, hfull⟩ := HR.out.row.repL
      have HF := Lib.hid hfull
      have q0 := HR.out.cells 0
      have q1 := HR.out.cells 1
      have q2 := HR.out.cells 2
      have q3 := HR.out.cells 3
      have q4 := HR.out.cells 4
      have q5 := HR.out.cells 5
      have r0 := HR.out.res 0
      have r1 := HR.out.res 1
      have r2 := HR.out.res 2
      have r3 := HR.out.res 3
      have r4 := HR.out.res 4
      have r5 := HR.out.res 5
      have rf := HR.out.rfrozen
      simp only [List.getElem?_toArray, List.getElem?_cons_zero, List.getElem?_cons_succ] at q0 q1 q2 q3 q4 q5 r0 r1 r2 r3 r4 r5
      clear hfull hi hlt
      go_wp2_with fail
      refine bodyPost_ret (v := .tuple #[.agg #[.int .i64 5, .int .i64 0, .string ByteArray.empty, .slice sa l.length scap, .slice none 0 0, .slice none 0 0], .bool true]) (by rw [results_cell_tmp rfl]; go_simp) rfl ?_
      have fin : ∀ wx, wr.grownBy wx (some w.heap.size) → (∃ v, Ending.returned (.tuple #[.agg #[.int .i64 5, .int .i64 0, .string ByteArray.empty, .slice sa l.length scap, .slice none 0 0, .slice none 0 0], .bool true]) = Ending.returned (.tuple #[v, .bool true]) ∧ RV.Here w.heap.size wx v (.mk 5 0 ByteArray.empty l [] []) ∧ Below w.heap.size w wx) := fun wx hgb => by
        refine ⟨_, rfl, fun wy hx => ?_, below_gb HR.out.below hgb HR.out.below.size (Nat.le_refl _)⟩
        have hR := HF.out wy fun kk hb hk => (hx kk (by omega) (Nat.lt_of_lt_of_le hk hgb.size)).trans (hgb.block kk hk (fun e => by injection e; omega))
        unfold RV.Rep
        exact ⟨sa, scap, none, 0, none, 0, rfl, by unfold I64; omega, by unfold I64; omega, by decide, by unfold reachN; omega, by simp, by simp, hR, trivial, by unfold RV.RepL; trivial⟩
      with_reducible refine fin _ ?_
      repeat' (with_reducible first | exact World.grownBy.refl _ _ | refine gb_alloc ?_ _ | refine gb_set ?_ _ _)
end Go.Proofs.YtjpcdbopioblaaaGreatDoor

/- Between the two appends of a round of mapFromGo: plain laws. -/
namespace Go.Proofs.YtjpcdbopioblaaaGreatDoor
open Go.RowKit

/-- An element that came back: it lies in blocks of its own, none of which is 'bad' (may still be written). -/
def Elem2 (lo : Nat) (w : World) (bad : Nat → Prop) (y : RV) (cs : List Value) : Prop :=
  ∃ c0 c1 c2 c3 c4 c5 a b, cs = [c0, c1, c2, c3, c4, c5] ∧ lo ≤ a ∧ b ≤ w.heap.size ∧ (∀ g, bad g → ¬ (a ≤ g ∧ g < b)) ∧
    ∀ wx, (∀ i, a ≤ i → i < b → wx.heap[i]? = w.heap[i]?) → y.Rep wx (.agg #[c0, c1, c2, c3, c4, c5])

theorem Elem2.step {lo : Nat} {w w' : World} {bad bad' : Nat → Prop} {y : RV} {cs : List Value} (h : Elem2 lo w bad y cs) (hw : ∀ k, lo ≤ k → k < w.heap.size → ¬ bad k → w'.heap[k]? = w.heap[k]?) (hz : w.heap.size ≤ w'.heap.size)
    (ho : ∀ g, bad' g → bad g ∨ w.heap.size ≤ g) : Elem2 lo w' bad' y cs := by
  obtain ⟨c0, c1, c2, c3, c4, c5, a, b, e, ha, hb, hg, hr⟩ := h
  refine ⟨c0, c1, c2, c3, c4, c5, a, b, e, ha, by omega, ?_, fun wx hx => hr wx fun i h1 h2 => ?_⟩
  · intro g hgo
    rcases ho g hgo with h | h
    · exact hg g h
    · omega
  · rw [hx i h1 h2]
    exact hw i (by omega) (by omega) (fun e => hg i e ⟨h1, h2⟩)

/-- The blocks of the two rows. -/
def Own2 (ck cv : Value) (g : Nat) : Prop := ck.ownBlock = some g ∨ cv.ownBlock = some g
/-- A row of the map's first keys. -/
def RowK (lo : Nat) (w : World) (sl : Value) (ks : List ByteArray) (i : Nat) : Prop := w.ownsRow lo 9 1 sl i ((ks.take i).map fun k => Value.string k)

theorem ownsRow_same {lo : Nat} {w w' : World} {e : TypeId} {size : Nat} {sl : Value} {n : Nat} {xs : List Value} (h : w.ownsRow lo e size sl n xs) (hw : ∀ g, sl.ownBlock = some g → w'.heap[g]? = w.heap[g]?) : w'.ownsRow lo e size sl n xs := by
  refine ⟨h.1, ?_⟩
  rcases h.2 with hn | ⟨g, cap, cur, rfl, hb, hg, rest⟩
  · exact .inl hn
  · exact .inr ⟨g, cap, cur, rfl, hb, (hw g rfl).trans hg, rest⟩

/-- Between the two appends: the world W, the keys' row (nk of them), the values' row (nv of them, their cells xs), the new value's cells. -/
structure Mid (lo : Nat) (ks : List ByteArray) (vs : List RV) (i T : Nat) (c0 c1 c2 c3 c4 c5 : Value) (W0 W : World) (ck : Value) (nk : Nat) (cv : Value) (nv : Nat) (xs : List Value) : Prop where
  size : W0.heap.size ≤ W.heap.size
  os : W.os = W0.os ∧ W.tape = W0.tape ∧ W.output = W0.output
  old : ∀ g, g < lo → W.heap[g]? = W0.heap[g]?
  le : lo ≤ W0.heap.size
  tlt : T < W0.heap.size
  tlo : lo ≤ T
  tsame : W.heap[T]? = W0.heap[T]?
  rowk : RowK lo W ck ks nk
  rowv : W.ownsRow lo 27 6 cv nv xs
  elems : ∀ (j : Nat) (_ : j < nv) (h : j < vs.length), Elem2 lo W (Own2 ck cv) vs[j] ((xs.drop (j * 6)).take 6)
  elem : ∀ (h : i < vs.length), Elem2 lo W (Own2 ck cv) vs[i] [c0, c1, c2, c3, c4, c5]
  apart : ∀ g, ck.ownBlock = some g → cv.ownBlock ≠ some g
  tk : ck.ownBlock ≠ some T
  tv : cv.ownBlock ≠ some T

variable {lo : Nat} {ks : List ByteArray} {vs : List RV} {i T : Nat} {c0 c1 c2 c3 c4 c5 : Value} {W0 W W' : World} {ck : Value} {nk : Nat} {cv : Value} {nv : Nat} {xs : List Value}

theorem Mid.alloc (h : Mid lo ks vs i T c0 c1 c2 c3 c4 c5 W0 W ck nk cv nv xs) (o : Obj) : Mid lo ks vs i T c0 c1 c2 c3 c4 c5 W0 (W.alloc o) ck nk cv nv xs := by
  have hz : W.heap.size ≤ (W.alloc o).heap.size := by simp
  have hs : ∀ g, g < W.heap.size → (W.alloc o).heap[g]? = W.heap[g]? := fun g hg => Below.heap_alloc W o g hg
  have hle := h.le
  have hsz := h.size
  have htl := h.tlt
  refine ⟨by omega, h.os, fun g hg => (hs g (by omega)).trans (h.old g hg), h.le, h.tlt, h.tlo, (hs T (by omega)).trans h.tsame, ?_, ?_, fun j hj hl => (h.elems j hj hl).step (fun k _ hk _ => hs k hk) hz (fun g hg => .inl hg), fun hl => (h.elem hl).step (fun k _ hk _ => hs k hk) hz (fun g hg => .inl hg), h.apart, h.tk, h.tv⟩
  · exact ownsRow_same h.rowk fun g hg => hs g (h.rowk.lt g hg).2
  · exact ownsRow_same h.rowv fun g hg => hs g (h.rowv.lt g hg).2

/-- Behind the append to the keys' row. -/
theorem Mid.pushK {ck' : Value} (h : Mid lo ks vs i T c0 c1 c2 c3 c4 c5 W0 W ck nk cv nv xs) (hg : W.grownBy W' ck.ownBlock) (hrow : RowK lo W' ck' ks (nk + 1)) (ho : ck'.ownBlock = ck.ownBlock ∨ ck'.ownBlock = some W.heap.size) :
    Mid lo ks vs i T c0 c1 c2 c3 c4 c5 W0 W' ck' (nk + 1) cv nv xs := by
  have hle := h.le
  have hsz := h.size
  have htl := h.tlt
  have klo : ∀ g, ck.ownBlock = some g → lo ≤ g := fun g e => (h.rowk.lt g e).1
  have hbad : ∀ g, Own2 ck' cv g → Own2 ck cv g ∨ W.heap.size ≤ g := fun g e => by
    rcases e with e | e
    · rcases ho with ho | ho
      · exact .inl (.inl (ho ▸ e))
      · rw [ho] at e; injection e with e; exact .inr (by omega)
    · exact .inl (.inr e)
  have hs : ∀ k, k < W.heap.size → ck.ownBlock ≠ some k → W'.heap[k]? = W.heap[k]? := fun k hk hne => hg.block k hk (fun e => hne e.symm)
  refine ⟨Nat.le_trans h.size hg.size, ⟨hg.os.trans h.os.1, hg.tape.trans h.os.2.1, hg.output.trans h.os.2.2⟩, fun g hgl => (hs g (by omega) (fun e => by have := klo g e; omega)).trans (h.old g hgl), h.le, h.tlt, h.tlo, (hs T (by omega) h.tk).trans h.tsame, hrow, ?_,
    fun j hj hl => (h.elems j hj hl).step (fun k _ hk hb => hs k hk (fun e => hb (.inl e))) hg.size hbad, fun hl => (h.elem hl).step (fun k _ hk hb => hs k hk (fun e => hb (.inl e))) hg.size hbad, ?_, ?_, h.tv⟩
  · exact ownsRow_same h.rowv fun g e => hs g (h.rowv.lt g e).2 (fun e2 => h.apart g e2 e)
  · intro g e e2
    rcases ho with ho | ho
    · exact h.apart g (ho ▸ e) e2
    · rw [ho] at e; injection e with e; have := (h.rowv.lt g e2).2; omega
  · intro e
    rcases ho with ho | ho
    · exact h.tk (ho ▸ e)
    · rw [ho] at e; injection e with e; omega

/-- Behind the append to the values' row. -/
theorem Mid.pushV {cv' : Value} (h : Mid lo ks vs i T c0 c1 c2 c3 c4 c5 W0 W ck nk cv i xs) (hi : i < vs.length) (hg : W.grownBy W' cv.ownBlock) (hrow : W'.ownsRow lo 27 6 cv' (i + 1) (xs ++ [c0, c1, c2, c3, c4, c5])) (ho : cv'.ownBlock = cv.ownBlock ∨ cv'.ownBlock = some W.heap.size) :
    Mid lo ks vs i T c0 c1 c2 c3 c4 c5 W0 W' ck nk cv' (i + 1) (xs ++ [c0, c1, c2, c3, c4, c5]) := by
  have hle := h.le
  have hsz := h.size
  have htl := h.tlt
  have vlo : ∀ g, cv.ownBlock = some g → lo ≤ g := fun g e => (h.rowv.lt g e).1
  have hbad : ∀ g, Own2 ck cv' g → Own2 ck cv g ∨ W.heap.size ≤ g := fun g e => by
    rcases e with e | e
    · exact .inl (.inl e)
    · rcases ho with ho | ho
      · exact .inl (.inr (ho ▸ e))
      · rw [ho] at e; injection e with e; exact .inr (by omega)
  have hs : ∀ k, k < W.heap.size → cv.ownBlock ≠ some k → W'.heap[k]? = W.heap[k]? := fun k hk hne => hg.block k hk (fun e => hne e.symm)
  have hel : ∀ {y : RV} {cs : List Value}, Elem2 lo W (Own2 ck cv) y cs → Elem2 lo W' (Own2 ck cv') y cs := fun he => he.step (fun k _ hk hb => hs k hk (fun e => hb (.inr e))) hg.size hbad
  refine ⟨Nat.le_trans h.size hg.size, ⟨hg.os.trans h.os.1, hg.tape.trans h.os.2.1, hg.output.trans h.os.2.2⟩, fun g hgl => (hs g (by omega) (fun e => by have := vlo g e; omega)).trans (h.old g hgl), h.le, h.tlt, h.tlo, (hs T (by omega) h.tv).trans h.tsame, ?_, hrow,
    fun j hj hl => ?_, fun hl => hel (h.elem hl), ?_, h.tk, ?_⟩
  · exact ownsRow_same h.rowk fun g e => hs g (h.rowk.lt g e).2 (fun e2 => h.apart g e e2)
  · have hlen := h.rowv.1
    rcases Nat.lt_or_ge j i with hji | hji
    · rw [List.drop_append_of_le_length (by omega), List.take_append_of_le_length (by simp; omega)]
      exact hel (h.elems j hji hl)
    · have : j = i := by omega
      subst this
      rw [List.drop_append, List.drop_eq_nil_of_le (by omega), hlen, Nat.sub_self]
      exact hel (h.elem hl)
  · intro g e e2
    rcases ho with ho | ho
    · exact h.apart g e (ho ▸ e2)
    · rw [ho] at e2; injection e2 with e2; have := (h.rowk.lt g e).2; omega
  · intro e
    rcases ho with ho | ho
    · exact h.tv (ho ▸ e)
    · rw [ho] at e; injection e with e; omega
end Go.Proofs.YtjpcdbopioblaaaGreatDoor

/- The sorted keys of a map of the program's: as they were. -/
namespace Go.Proofs.YtjpcdbopioblaaaGreatDoor
open Go.RowKit Go.WideMaps Go.Maps

theorem strKeys_mapD (ks : List ByteArray) (xs : List Value) (hl : xs.length = ks.length) : strKeys (mapD ks xs) = ks.map fun k => k.data.toList := by
  unfold mapD strKeys
  simp only [List.map_map]
  induction ks generalizing xs with
  | nil => simp
  | cons k ks ih =>
    cases xs with
    | nil => simp at hl
    | cons x xs => simp only [List.zip_cons_cons, List.map_cons]; rw [ih xs (by simpa using hl)]; rfl

theorem sorted_keys (ks : List ByteArray) (hu : KeysUp ks) (ss : List (List UInt8)) (h : ss.Perm (ks.map fun k => k.data.toList)) : ss.mergeSort (fun x y => decide (x ≤ y)) = ks.map fun k => k.data.toList := by
  have hp : List.Pairwise (fun a b : List UInt8 => decide (a ≤ b) = true) (ss.mergeSort fun x y => decide (x ≤ y)) :=
    List.pairwise_mergeSort (fun a b c h1 h2 => by
      simp only [decide_eq_true_eq] at *; exact List.le_trans h1 h2) (fun a b => by
      simp only [Bool.or_eq_true, decide_eq_true_eq]; exact List.le_total a b) ss
  have hk : List.Pairwise (fun a b : List UInt8 => decide (a ≤ b) = true) (ks.map fun k => k.data.toList) := by
    refine List.pairwise_iff_getElem.2 fun a b ha hb hab => ?_
    simp only [List.length_map] at ha hb
    simp only [List.getElem_map, decide_eq_true_eq]
    have hlt := hu.lt' hab hb
    rw [ByteArray.toList_eq, ByteArray.toList_eq, bytesLess_eq] at hlt
    simp only [decide_eq_true_eq] at hlt
    exact List.le_of_lt hlt
  exact List.Perm.eq_of_pairwise (fun a b _ _ h1 h2 => by simp only [decide_eq_true_eq] at h1 h2; exact List.le_antisymm h1 h2) hp hk ((List.mergeSort_perm ss _).trans h)

/-- What the two calls of the library give: a row of the map's keys, rising. -/
theorem keys_call (mb : Option Nat) (W : World) : Calls Tryz.prog 155 #[.map mb] W fun e w' => e = .returned (.func (.func 174) #[] #[.pointer (some ⟨W.heap.size, 0, none⟩)]) ∧ w' = W.alloc (.cells #[.map mb] 90) :=
  callsIn_wide.1 (Go.Proofs.Tryz.maps_Keys_155 mb W)
theorem sorted_call (r n : Nat) (ks : List ByteArray) (xs : List Value) (w : World) (hm : w.ownsMap Tryz.prog 9 heldR r n (mapD ks xs)) (hl : xs.length = ks.length) (hu : KeysUp ks) (hs : ks.length ≤ 100000) :
    Calls Tryz.prog 154 #[.func (.func 174) #[] #[.pointer (some ⟨w.heap.size, 0, none⟩)]] (w.alloc (.cells #[.map (some r)] 90)) fun e w' =>
      ∃ v, e = .returned v ∧ w'.ownsRow (w.heap.size + 1) 9 1 v ks.length (ks.map fun k => Value.string k) ∧ Below (w.heap.size + 1) (w.alloc (.cells #[.map (some r)] 90)) w' := by
  have hz := size_mapD ks xs hl
  refine (callsIn_wide.1 (Go.Proofs.Tryz.slices_Sorted_keys_154_155 r n (mapD ks xs) heldR w hm (by rw [hz]; unfold maxLen; omega) (by rw [hz]; omega))).mono fun e w' ⟨v, ss, he, hp, hrow, _, hb⟩ => ⟨v, he, ?_, by simpa using hb⟩
  rw [strKeys_mapD ks xs hl] at hp
  have hlen : ss.length = ks.length := by rw [hp.length_eq]; simp
  rw [sorted_keys ks hu ss hp, hlen] at hrow
  have e : (ks.map fun k => k.data.toList).map encStr = ks.map fun k => Value.string k := by
    rw [List.map_map]
    refine List.map_congr_left fun k _ => ?_
    rfl
  rw [e] at hrow
  simpa using hrow
end Go.Proofs.YtjpcdbopioblaaaGreatDoor

/- The map that mapFromGo makes, round by round: plain laws. -/
namespace Go.Proofs.YtjpcdbopioblaaaGreatDoor
open Go.RowKit

theorem KeysAt.of {w : World} {b o : Nat} : ∀ (l : List ByteArray) (i : Nat), (∀ (j : Nat) (h : j < l.length), l[j].size ≤ reachN ∧ w.cell? ⟨b, o + (i + j), none⟩ = some (.string l[j])) → KeysAt w (some ⟨b, o, none⟩) i l
  | [], _, _ => trivial
  | y :: ys, i, h => by
    refine ⟨⟨b, o, rfl, (h 0 (by simp)).1, by have h2 := (h 0 (Nat.zero_lt_succ _)).2; rw [Nat.add_zero] at h2; exact h2⟩, KeysAt.of ys (i + 1) fun j hj => ?_⟩
    have := h (j + 1) (by simpa using hj)
    rw [show i + (j + 1) = i + 1 + j by omega] at this
    simpa using this

/-- The keys' row, full, is the keys. -/
theorem RowK.keysAt {lo : Nat} {w : World} {sl : Value} {ks : List ByteArray} (h : RowK lo w sl ks ks.length) (hk : ∀ k ∈ ks, k.size ≤ reachN) : ∃ a cap, sl = .slice a ks.length cap ∧ ∀ wx, SameFrom lo w wx → KeysAt wx a 0 ks := by
  unfold RowK at h
  rw [List.take_length] at h
  have hcell := fun g => h.cells (g := g)
  rcases h.2 with ⟨rfl, h0⟩ | ⟨g, cap, cur, rfl, hb, hg, _⟩
  · have : ks = [] := List.eq_nil_of_length_eq_zero h0
    subst this
    exact ⟨none, 0, rfl, fun _ _ => trivial⟩
  · refine ⟨_, cap, rfl, fun wx hx => KeysAt.of ks 0 fun j hj => ⟨hk _ (List.getElem_mem hj), ?_⟩⟩
    have hglt := (Array.getElem?_eq_some_iff.1 hg).1
    have h2 := hcell g rfl j (.string ks[j]) (by simp [hj])
    have e2 : (⟨g, 0, none⟩ : Addr).add j = ⟨g, 0 + (0 + j), none⟩ := by unfold Addr.add; split <;> simp_all
    rw [e2] at h2
    exact (World.cell?_of_block (hx g hb hglt)).trans h2

/-- The values' row, full, is the values. -/
theorem rows_repL {lo : Nat} {w : World} {sl : Value} {l : List RV} {bad : Nat → Prop} {xs : List Value} (hown : w.ownsRow lo 27 6 sl l.length xs) (hel : ∀ (j : Nat) (_ : j < l.length) (h : j < l.length), Elem2 lo w bad l[j] ((xs.drop (j * 6)).take 6)) :
    ∃ a cap, sl = .slice a l.length cap ∧ ∀ wx, SameFrom lo w wx → RV.RepL wx a 0 l := by
  have hlen := hown.1
  have hcell := fun g => hown.cells (g := g)
  rcases hown.2 with ⟨rfl, h0⟩ | ⟨g, cap, cur, rfl, hb, hg, hn, _, _, _⟩
  · have : l = [] := List.eq_nil_of_length_eq_zero h0
    subst this
    exact ⟨none, 0, rfl, fun _ _ => by unfold RV.RepL; trivial⟩
  · refine ⟨_, cap, rfl, fun wx hx => RV.RepL.of l 0 fun j hj => ?_⟩
    obtain ⟨c0, c1, c2, c3, c4, c5, a, b, e, ha, hb2, hgo, hr⟩ := hel j hj hj
    have hglt := (Array.getElem?_eq_some_iff.1 hg).1
    have get : ∀ (k : Nat) (c : Value), ([c0, c1, c2, c3, c4, c5] : List Value)[k]? = some c → wx.cell? ⟨g, 0 + (0 + j) * 6 + k, none⟩ = some c := by
      intro k c hk
      have hk6 : k < 6 := by
        rcases Nat.lt_or_ge k 6 with h | h
        · exact h
        · rw [List.getElem?_eq_none (by simpa using h)] at hk; cases hk
      have h1 : xs[j * 6 + k]? = some c := by
        rw [← e, List.getElem?_take, if_pos hk6, List.getElem?_drop] at hk
        exact hk
      have h2 := hcell g rfl (j * 6 + k) c h1
      have e2 : (⟨g, 0, none⟩ : Addr).add (j * 6 + k) = ⟨g, 0 + (0 + j) * 6 + k, none⟩ := by unfold Addr.add; split <;> simp_all
      rw [e2] at h2
      exact (World.cell?_of_block (hx g hb hglt)).trans h2
    exact ⟨c0, c1, c2, c3, c4, c5, get 0 _ rfl, get 1 _ rfl, get 2 _ rfl, get 3 _ rfl, get 4 _ rfl, get 5 _ rfl, hr wx fun i h1 h2 => hx i (by omega) (by omega)⟩

/-- The map that is being made: lo: the heap's size when the sorted keys are there. -/
structure OutM (w : World) (lo : Nat) (kv : Value) (ks : List ByteArray) (vs : List RV) (i : Nat) (slk slv : Value) (wr : World) : Prop where
  below : Below w.heap.size w wr
  lo2 : w.heap.size + 2 ≤ lo
  le : lo ≤ wr.heap.size
  keys : wr.ownsRow (w.heap.size + 2) 9 1 kv ks.length (ks.map fun k => Value.string k)
  klt : ∀ g, kv.ownBlock = some g → g < lo
  rowk : RowK lo wr slk ks i
  rowv : ∃ xs : List Value, wr.ownsRow lo 27 6 slv i xs ∧ ∀ (j : Nat) (_ : j < i) (h : j < vs.length), Elem2 lo wr (Own2 slk slv) vs[j] ((xs.drop (j * 6)).take 6)
  apart : ∀ g, slk.ownBlock = some g → slv.ownBlock ≠ some g
  cells : ∀ o, wr.cell? ⟨w.heap.size + 1, o, none⟩ = (#[.int .i64 6, .int .i64 0, .string ByteArray.empty, .slice none 0 0, slk, slv] : Array Value)[o]?
  frozen : ∀ o, wr.frozen? ⟨w.heap.size + 1, o, none⟩ = false
  res : ∀ o, wr.cell? ⟨w.heap.size, o, none⟩ = (#[.int .i64 0, .int .i64 0, .string ByteArray.empty, .slice none 0 0, .slice none 0 0, .slice none 0 0] : Array Value)[o]?
  rfrozen : ∀ o, wr.frozen? ⟨w.heap.size, o, none⟩ = false

theorem Tryz.infoString : (Tryz.prog.info? 9).map (fun i => (i.zero, i.size, i.bytes)) = some (some (.string ByteArray.empty), 1, 16) := by kernel_rfl

theorem OutM.start (w : World) (ks : List ByteArray) (vs : List RV) (kv : Value) (r : Nat) (w2 : World)
    (hrow : w2.ownsRow (w.heap.size + 1 + 1 + 1) 9 1 kv ks.length (ks.map fun k => Value.string k))
    (hb2 : Below (w.heap.size + 1 + 1 + 1) (((w.alloc (.cells #[.int .i64 0, .int .i64 0, .string ByteArray.empty, .slice none 0 0, .slice none 0 0, .slice none 0 0] 27)).alloc (.cells #[.int .i64 6, .int .i64 0, .string ByteArray.empty, .slice none 0 0, .slice none 0 0, .slice none 0 0] 27)).alloc (.cells #[.map (some r)] 90)) w2) :
    OutM w w2.heap.size kv ks vs 0 (.slice none 0 0) (.slice none 0 0) w2 := by
  have hz2 : w.heap.size + 3 ≤ w2.heap.size := by have := hb2.size; simp at this; omega
  have e1 : (w.alloc (.cells #[.int .i64 0, .int .i64 0, .string ByteArray.empty, .slice none 0 0, .slice none 0 0, .slice none 0 0] 27)).heap.size = w.heap.size + 1 := by simp
  have e2 : ((w.alloc (.cells #[.int .i64 0, .int .i64 0, .string ByteArray.empty, .slice none 0 0, .slice none 0 0, .slice none 0 0] 27)).alloc (.cells #[.int .i64 6, .int .i64 0, .string ByteArray.empty, .slice none 0 0, .slice none 0 0, .slice none 0 0] 27)).heap.size = w.heap.size + 2 := by simp
  have hA : w2.heap[w.heap.size]? = some (.cells #[.int .i64 0, .int .i64 0, .string ByteArray.empty, .slice none 0 0, .slice none 0 0, .slice none 0 0] 27 (0, 0)) :=
    (hb2.block _ (by omega)).trans ((Below.heap_alloc _ _ _ (by omega)).trans ((Below.heap_alloc _ _ _ (by omega)).trans (heap_alloc_new _ _)))
  have hB : w2.heap[w.heap.size + 1]? = some (.cells #[.int .i64 6, .int .i64 0, .string ByteArray.empty, .slice none 0 0, .slice none 0 0, .slice none 0 0] 27 (0, 0)) := by
    refine (hb2.block _ (by omega)).trans ((Below.heap_alloc _ _ _ (by omega)).trans ?_)
    rw [← e1]
    exact heap_alloc_new _ _
  refine ⟨((((Below.refl w.heap.size w).alloc (Nat.le_refl _) _).alloc (by simp) _).alloc (by simp; omega) _).trans (hb2.mono (by omega)), by omega, Nat.le_refl _, ⟨hrow.1, hrow.2.imp id fun ⟨g, cap, cur, h1, h2, h3⟩ => ⟨g, cap, cur, h1, by omega, h3⟩⟩, fun g e => (hrow.lt g e).2,
    World.ownsRow_nil _ _ _ _, ⟨[], World.ownsRow_nil _ _ _ _, fun j hj => absurd hj (Nat.not_lt_zero _)⟩, fun g e => by simp [Value.ownBlock] at e, fun o => cell_of_row _ _ o _ _ _ hB, fun o => by simp [World.frozen?, hB], fun o => cell_of_row _ _ o _ _ _ hA, fun o => by simp [World.frozen?, hA]⟩

theorem OutM.mid {w wr w1 W0 : World} {lo : Nat} {kv : Value} {ks : List ByteArray} {vs : List RV} {i : Nat} {slk slv c0 c1 c2 c3 c4 c5 : Value} (h : OutM w lo kv ks vs i slk slv wr) (hi : i < vs.length) (hb1 : Below wr.heap.size wr w1)
    (hh : vs[i].Here wr.heap.size w1 (.agg #[c0, c1, c2, c3, c4, c5])) (h0 : Below w1.heap.size w1 W0) (h1 : w1.heap.size < W0.heap.size) {ys : List Value} (hrv : wr.ownsRow lo 27 6 slv i ys)
    (hel : ∀ (j : Nat) (_ : j < i) (h : j < vs.length), Elem2 lo wr (Own2 slk slv) vs[j] ((ys.drop (j * 6)).take 6)) :
    Mid lo ks vs i w1.heap.size c0 c1 c2 c3 c4 c5 W0 W0 slk i slv i ys := by
  have hle := h.le
  have z1 := hb1.size
  have hs : ∀ g, g < wr.heap.size → W0.heap[g]? = wr.heap[g]? := fun g hg => (h0.block g (by omega)).trans (hb1.block g hg)
  have klt : ∀ g, slk.ownBlock = some g → g < wr.heap.size := fun g e => (h.rowk.lt g e).2
  have vlt : ∀ g, slv.ownBlock = some g → g < wr.heap.size := fun g e => (hrv.lt g e).2
  refine ⟨Nat.le_refl _, ⟨rfl, rfl, rfl⟩, fun _ _ => rfl, by omega, h1, by omega, rfl, ownsRow_same h.rowk fun g e => hs g (klt g e), ownsRow_same hrv fun g e => hs g (vlt g e),
    fun j hj hl => (hel j hj hl).step (fun k _ hk _ => hs k hk) (by omega) (fun g hg => .inl hg),
    fun _ => ⟨c0, c1, c2, c3, c4, c5, wr.heap.size, w1.heap.size, rfl, hle, by omega, fun g hg e => ?_, fun wx hx => hh wx fun kk h2 h3 => (hx kk h2 h3).trans (h0.block kk h3)⟩, h.apart, fun e => ?_, fun e => ?_⟩
  · rcases hg with hg | hg
    · have := klt g hg; omega
    · have := vlt g hg; omega
  · have := klt _ e; omega
  · have := vlt _ e; omega

/-- A round's end: both rows have grown by one, and stand in the fields. -/
theorem OutM.push {w wr w1 W0 W : World} {lo : Nat} {kv : Value} {ks : List ByteArray} {vs : List RV} {i : Nat} {slk slv ck cv c0 c1 c2 c3 c4 c5 : Value} {xs : List Value} (h : OutM w lo kv ks vs i slk slv wr) (hb1 : Below wr.heap.size wr w1)
    (h0 : Below w1.heap.size w1 W0) (hm : Mid lo ks vs i w1.heap.size c0 c1 c2 c3 c4 c5 W0 W ck (i + 1) cv (i + 1) xs) :
    OutM w lo kv ks vs (i + 1) ck cv ((W.setCell ⟨w.heap.size + 1, 4, none⟩ ck).setCell ⟨w.heap.size + 1, 5, none⟩ cv) := by
  have hle := h.le
  have hlo := h.lo2
  have z1 := hb1.size
  have z2 := h0.size
  have z3 := hm.size
  have zb := h.below.size
  have heap : ∀ g, g < lo → W.heap[g]? = wr.heap[g]? := fun g hg => (hm.old g hg).trans ((h0.block g (by omega)).trans (hb1.block g (by omega)))
  have other : ∀ g, g ≠ w.heap.size + 1 → ((W.setCell ⟨w.heap.size + 1, 4, none⟩ ck).setCell ⟨w.heap.size + 1, 5, none⟩ cv).heap[g]? = W.heap[g]? := fun g hg =>
    (Below.heap_setCell _ ⟨w.heap.size + 1, 5, none⟩ cv g hg).trans (Below.heap_setCell W ⟨w.heap.size + 1, 4, none⟩ ck g hg)
  have hsz : ((W.setCell ⟨w.heap.size + 1, 4, none⟩ ck).setCell ⟨w.heap.size + 1, 5, none⟩ cv).heap.size = W.heap.size := by simp [World.setCell]
  have hbW : Below w.heap.size w W := ⟨hm.os.1.trans (h0.os.trans (hb1.os.trans h.below.os)), hm.os.2.1.trans (h0.tape.trans (hb1.tape.trans h.below.tape)), hm.os.2.2.trans (h0.output.trans (hb1.output.trans h.below.output)), by omega, fun k hk => (heap k (by omega)).trans (h.below.block k hk)⟩
  refine ⟨(hbW.setCell (Nat.le_succ _) ck).setCell (Nat.le_succ _) cv, hlo, by rw [hsz]; omega, ownsRow_same h.keys fun g e => (other g (by have := (h.keys.lt g e).1; omega)).trans (heap g (h.klt g e)), h.klt, ownsRow_same hm.rowk fun g e => other g (by have := (hm.rowk.lt g e).1; omega),
    ⟨xs, ownsRow_same hm.rowv fun g e => other g (by have := (hm.rowv.lt g e).1; omega), fun j hj hl => (hm.elems j hj hl).step (fun k hk _ _ => other k (by omega)) (by rw [hsz]; exact Nat.le_refl _) (fun g hg => .inl hg)⟩, hm.apart, fun o => ?_, fun o => ?_, fun o => ?_, fun o => ?_⟩
  · have cell : ∀ o, W.cell? ⟨w.heap.size + 1, o, none⟩ = wr.cell? ⟨w.heap.size + 1, o, none⟩ := fun o => World.cell?_of_block (heap (w.heap.size + 1) (by omega))
    by_cases o5 : o = 5
    · subst o5
      rw [World.cell?_setCell_same _ _ _ (u := slv) (by rw [World.cell?_setCell_other _ _ _ _ (by intro e; injection e with _ e2; cases e2), cell 5]; exact h.cells 5)]
      rfl
    · rw [World.cell?_setCell_other _ _ _ _ (by intro e; injection e with _ e2; exact o5 e2.symm)]
      by_cases o4 : o = 4
      · subst o4
        rw [World.cell?_setCell_same _ _ _ ((cell 4).trans (h.cells 4))]
        rfl
      · rw [World.cell?_setCell_other _ _ _ _ (by intro e; injection e with _ e2; exact o4 e2.symm), cell o, h.cells o]
        match o, o4, o5 with
        | 0, _, _ => rfl
        | 1, _, _ => rfl
        | 2, _, _ => rfl
        | 3, _, _ => rfl
        | (n + 6), _, _ => simp
  · rw [World.frozen?_setCell, World.frozen?_setCell, World.frozen?_of_block (heap (w.heap.size + 1) (by omega))]; exact h.frozen o
  · rw [World.cell?_of_block ((other w.heap.size (by omega)).trans (heap w.heap.size (by omega)))]; exact h.res o
  · rw [World.frozen?_of_block ((other w.heap.size (by omega)).trans (heap w.heap.size (by omega)))]; exact h.rfrozen o
end Go.Proofs.YtjpcdbopioblaaaGreatDoor
