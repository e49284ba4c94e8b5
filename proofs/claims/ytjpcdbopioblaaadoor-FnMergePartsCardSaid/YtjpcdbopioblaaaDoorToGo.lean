/- The thin package's toGo walked: a good value comes out as itself. -/
import Derived.Test.YtjpcdbopioblaaaDoorFloats
import Derived.Test.YtjpcdbopioblaaaDoorMapPlain
namespace Go.Proofs.YtjpcdbopioblaaaDoor
open Go.RowKit Go.WideMaps Go.Maps

def GoPost (x : RV) (w : World) (e : Ending) (w' : World) : Prop := ∃ v, e = .returned (.tuple #[v, .bool true]) ∧ x.Go w' w.heap.size v ∧ Below w.heap.size w w'


/-- The list that is being made: block O; its first i places are filled. -/
structure MadeL (w : World) (O : Nat) (l : List RV) (i : Nat) (wx : World) : Prop where
  row : ∃ cs : Array Value, wx.heap[O]? = some (.cells cs 20 (0, 0)) ∧ cs.size = l.length ∧ ∀ (j : Nat) (_ : j < i) (h : j < l.length), ∃ x, cs[j]? = some x ∧ l[j].Go wx (O + 1) x
  below : Below O w wx
theorem MadeL.lt {w wx : World} {O i : Nat} {l : List RV} (h : MadeL w O l i wx) : O < wx.heap.size := by obtain ⟨cs, h1, _⟩ := h.row; exact lt_of_block h1
theorem MadeL.cell {w wx : World} {O i : Nat} {l : List RV} (h : MadeL w O l i wx) (j : Nat) (hj : j < l.length) : ∃ u, wx.cell? ⟨O, j, none⟩ = some u := by
  obtain ⟨cs, h1, h2, _⟩ := h.row
  exact ⟨cs[j]'(by omega), by simp [World.cell?, h1, show j < cs.size from by omega]⟩
theorem MadeL.fr {w wx : World} {O i : Nat} {l : List RV} (h : MadeL w O l i wx) (j : Nat) : wx.frozen? ⟨O, j, none⟩ = false := by
  obtain ⟨cs, h1, h2, _⟩ := h.row
  simp [World.frozen?, h1]
theorem MadeL.kept {w wx w' : World} {O i : Nat} {l : List RV} (h : MadeL w O l i wx) (hb : Below wx.heap.size wx w') : MadeL w O l i w' := by
  have hlt := h.lt
  obtain ⟨cs, h1, h2, h3⟩ := h.row
  refine ⟨⟨cs, (hb.block O hlt).trans h1, h2, fun j hj hl => ?_⟩, h.below.trans (hb.mono (by omega))⟩
  obtain ⟨x, hx, hg⟩ := h3 j hj hl
  exact ⟨x, hx, hg.same (.of_below hb _)⟩
theorem MadeL.store {w wx : World} {O i : Nat} {l : List RV} (h : MadeL w O l i wx) (hi : i < l.length) (x : Value) (hx : l[i].Go wx (O + 1) x) : MadeL w O l (i + 1) (wx.setCell ⟨O, i, none⟩ x) := by
  have hlt := h.lt
  obtain ⟨cs, h1, h2, h3⟩ := h.row
  have hg : wx.grownBy (wx.setCell ⟨O, i, none⟩ x) (some O) := gb_set (World.grownBy.refl wx _) i x
  have hs : SameFrom (O + 1) wx (wx.setCell ⟨O, i, none⟩ x) := .of_gb hg (by omega)
  refine ⟨⟨cs.setIfInBounds i x, ?_, by simpa using h2, fun j hj hl => ?_⟩, below_gb h.below hg (by omega) (Nat.le_refl _)⟩
  · have h' : wx.heap[O] = .cells cs 20 (0, 0) := by simpa [Array.getElem?_eq_getElem hlt] using h1
    show (wx.heap.modify O _)[O]? = _
    rw [Array.getElem?_eq_getElem (by simpa using hlt), Array.getElem_modify_self, h']
    rfl
  · by_cases he : j = i
    · subst he
      exact ⟨x, by simp [show j < cs.size from by omega], hx.same hs⟩
    · obtain ⟨y, hy, hg'⟩ := h3 j (by omega) hl
      exact ⟨y, by rw [Array.getElem?_setIfInBounds_ne (by omega)]; exact hy, hg'.same hs⟩
theorem MadeL.start (w : World) (l : List RV) : MadeL w w.heap.size l 0 (w.alloc (.cells (madeCells #[.nilIface] l.length) 20)) :=
  ⟨⟨_, heap_alloc_new _ _, by simp [size_madeCells], fun j hj => by omega⟩, (Below.refl _ _).alloc (Nat.le_refl _) _⟩
theorem MadeL.done {w wx : World} {O : Nat} {l : List RV} (h : MadeL w O l l.length wx) : RV.GoL wx O (some ⟨O, 0, none⟩) 0 l := by
  obtain ⟨cs, h1, h2, h3⟩ := h.row
  refine RV.GoL.of (Nat.le_refl _) l 0 fun j hj => ?_
  obtain ⟨x, hx, hg⟩ := h3 j hj hj
  exact ⟨x, by simpa [World.cell?, h1] using hx, hg.mono (by omega)⟩

set_option maxRecDepth 100000 in
set_option maxHeartbeats 400000 in
theorem listToGo_big (n : Nat) (ih : ∀ (x : RV) (v : Value) (w : World), x.nodes ≤ n → x.Good → x.Rep w v → Calls Tryd.prog 37 #[v] w (GoPost x w))
    (l : List RV) (a : Option Addr) (cap : Nat) (w : World) (hn : RV.nodesL l ≤ n) (hg : RV.GoodL l) (hr : RV.RepL w a 0 l) (hl : l.length ≤ 2000) :
    Calls Tryd.prog 45 #[.slice a l.length cap] w fun e w' => ∃ a' cap', e = .returned (.tuple #[.slice a' l.length cap', .bool true]) ∧ RV.GoL w' w.heap.size a' 0 l ∧ Below w.heap.size w w' := by
  have HIH := Lib.hid ih
  have HR := Lib.hid hr
  have HN := Lib.hid hn
  have HG := Lib.hid hg
  clear ih hr hn hg
  have info : (Tryd.prog.info? 20).map (fun i => (i.zero, i.size, i.bytes)) = some (some .nilIface, 1, 16) := by kernel_rfl
  have hmk := run_make_row' (P := Tryd.prog) 85 20 .nilIface 16 Tryd.underlying85 info rfl .i64 .i64 l.length (by omega) (by omega)
  clear info
  go_enter Tryd.func45, Tryd.ntmps45
  go_wp2_with fail
  have H0 := Lib.hid (MadeL.start w l)
  go_loopg [5, 6, 7, 8, 14] (l.length) (fun gk _ _ _ _ s14 wr => ∃ i : Nat, s14 = .int .i64 i ∧ i ≤ l.length ∧ gk = l.length - i ∧ Hid (MadeL w w.heap.size l i wr))
  case atStart => exact ⟨0, rfl, Nat.zero_le _, rfl, H0⟩
  case round =>
    obtain ⟨i, rfl, hi, rfl, HM⟩ := hrel
    by_cases hlt : i < l.length
    · obtain ⟨eb, eo, c0, c1, c2, c3, c4, c5, rfl, e0, e1, e2, e3, e4, e5, hre⟩ := HR.out.get i hlt
      simp only [Nat.zero_add] at e0 e1 e2 e3 e4 e5
      have HRE := Lib.hid hre
      have hbw := HM.out.below
      have hel := cell_lt e0
      have f0 := (hbw.cell (p := ⟨eb, _, none⟩) hel).trans e0
      have f1 := (hbw.cell (p := ⟨eb, _, none⟩) hel).trans e1
      have f2 := (hbw.cell (p := ⟨eb, _, none⟩) hel).trans e2
      have f3 := (hbw.cell (p := ⟨eb, _, none⟩) hel).trans e3
      have f4 := (hbw.cell (p := ⟨eb, _, none⟩) hel).trans e4
      have f5 := (hbw.cell (p := ⟨eb, _, none⟩) hel).trans e5
      clear e0 e1 e2 e3 e4 e5 hbw
      obtain ⟨vk, vh, vt, val, vnl, vcl, vak, vnk, vck, vav, vnv, vcv, rfl, rfl, rfl, rfl, rfl, rfl⟩ := hre.shape
      clear hre
      have hnn : l[i].nodes ≤ n := Nat.le_trans (RV.nodes_le hlt) HN.out
      have hgi : l[i].Good := HG.out.get i hlt
      have HC : Hid (∀ wx, Below w.heap.size w wx → Calls Tryd.prog 37 #[.agg #[.int .i64 vk, .int .i64 vh, .string vt, .slice val vnl vcl, .slice vak vnk vck, .slice vav vnv vcv]] wx (GoPost l[i] wx)) := fun wx hb => HIH.out _ _ _ hnn hgi (HRE.out.below hb)
      clear hnn hgi
      go_wp2_with fail
      refine (HC.out _ (HM.out.below.alloc (Nat.le_of_lt HM.out.lt) _)).mono ?_
      rintro e w3 ⟨v, rfl, hv, hb3⟩
      have HM3 := Lib.hid ((HM.out.kept ((Below.refl _ _).alloc (Nat.le_refl _) _)).kept hb3)
      have HV : Hid (l[i].Go w3 (w.heap.size + 1) v) := hv.mono (by have := HM.out.lt; simp; omega)
      obtain ⟨u, hcO⟩ := HM3.out.cell i hlt
      have hfO := HM3.out.fr i
      clear hb3 f0 f1 f2 f3 f4 f5
      rcases hv.shape with rfl | ⟨ty, y, rfl⟩
      all_goals
        clear hv
        go_wp2_with fail
        go_roundg (l.length - (i + 1))
        case measure => omega
        case rel => exact ⟨i + 1, by go_num, by omega, rfl, HM3.out.store hlt _ HV.out⟩
    · obtain rfl : i = l.length := by omega
      go_wp2_with fail
      go_ret2
      exact ⟨_, _, rfl, HM.out.done, HM.out.below⟩

/-- The map that is being made: block M; the first i keys are in it; X: the box of the argument. -/
structure MadeM (w : World) (M : Nat) (cs : Array Value) (ks : List ByteArray) (vs : List RV) (i : Nat) (wx : World) : Prop where
  map : ∃ xs, wx.ownsMap Tryd.prog 9 heldR M i (mapD (ks.take i) xs) ∧ xs.length = i ∧ RV.GoV wx (M + 1) xs (vs.take i)
  box : wx.heap[w.heap.size]? = some (.cells cs 26 (0, 0))
  below : Below w.heap.size w wx
  up : w.heap.size < M
theorem MadeM.lt {w wx : World} {M i : Nat} {cs : Array Value} {ks : List ByteArray} {vs : List RV} (h : MadeM w M cs ks vs i wx) : M < wx.heap.size := by obtain ⟨xs, h1, _⟩ := h.map; exact h1.lt
theorem MadeM.cell {w wx : World} {M i : Nat} {cs : Array Value} {ks : List ByteArray} {vs : List RV} (h : MadeM w M cs ks vs i wx) (j : Nat) : wx.cell? ⟨w.heap.size, j, none⟩ = cs[j]? := by simp [World.cell?, h.box]
theorem MadeM.kept {w wx w' : World} {M i : Nat} {cs : Array Value} {ks : List ByteArray} {vs : List RV} (h : MadeM w M cs ks vs i wx) (hb : Below wx.heap.size wx w') : MadeM w M cs ks vs i w' := by
  have hlt := h.lt
  obtain ⟨xs, h1, h2, h3⟩ := h.map
  exact ⟨⟨xs, (SameFrom.of_below hb 0).map (Nat.zero_le _) h1, h2, h3.same (.of_below hb _)⟩, (hb.block _ (by have := h.up; omega)).trans h.box, h.below.trans (hb.mono (by have := h.up; omega)), h.up⟩
theorem MadeM.store {w wx w' : World} {M i : Nat} {cs : Array Value} {ks : List ByteArray} {vs : List RV} (h : MadeM w M cs ks vs i wx) (hi : i < ks.length) (hv : i < vs.length) (x : Value) (hx : vs[i].Go wx (M + 1) x) (hu : KeysUp ks) (key : ByteArray) (hkey : ks[i] = key)
    (xs : List Value) (m2 : xs.length = i) (m3 : RV.GoV wx (M + 1) xs (vs.take i))
    (h1 : w'.ownsMap Tryd.prog 9 heldR M (i + 1) ((mapD (ks.take i) xs).put (.string key.data.toList) (.held x))) (hg : wx.grownBy w' (some M)) : MadeM w M cs ks vs (i + 1) w' := by
  have hlt := h.lt
  have hs : SameFrom (M + 1) wx w' := .of_gb hg (by omega)
  subst hkey
  refine ⟨⟨xs ++ [x], ?_, by simp [m2], ?_⟩, (hg.block _ (by have := h.up; omega) (fun e => by cases e; exact absurd h.up (Nat.lt_irrefl _))).trans h.box, below_gb h.below hg (by have := h.up; omega) (by have := h.up; omega), h.up⟩
  · rw [mapD_put (ks.take i) xs ks[i] x (by simp [m2]; omega) (fun y hy => by
      obtain ⟨j, hj, rfl⟩ := List.mem_iff_getElem.1 hy
      simp only [List.length_take] at hj
      simpa using hu.lt' (i := j) (j := i) (by omega) hi)] at h1
    rwa [List.take_succ_eq_append_getElem hi]
  · rw [List.take_succ_eq_append_getElem hv]
    exact RV.GoV.snoc (m3.same hs) (hx.same hs)

theorem run_makeMap_hint {P : Program} (t k e : TypeId) (kd : IntKind) (n : Int) (ht : P.underlying t = some (.map k e)) (w : World) :
    (Instr.makeMap t (some (.int kd n))).run P w = .ok (.map (some w.heap.size)) (w.alloc (.map #[] 0)) := by
  simp [Instr.makeMap, run_underlying ht]; rfl

set_option maxRecDepth 100000 in
set_option maxHeartbeats 800000 in
theorem mapToGo_any (n : Nat) (ih : ∀ (x : RV) (v : Value) (w : World), x.nodes ≤ n → x.Good → x.Rep w v → Calls Tryd.prog 37 #[v] w (GoPost x w))
    (k h : Int) (t : ByteArray) (l : List RV) (ks : List ByteArray) (vs : List RV) (v : Value) (w : World) (hn : RV.nodesL vs ≤ n) (hg : RV.GoodL vs) (hu : KeysUp ks) (hlen : ks.length = vs.length) (hr : (RV.mk k h t l ks vs).Rep w v) (hl : ks.length ≤ 2000) :
    Calls Tryd.prog 50 #[v] w fun e w' => ∃ r n' xs, e = .returned (.tuple #[.map (some r), .bool true]) ∧ w.heap.size ≤ r ∧ n' ≤ 1000000 ∧ w'.ownsMap Tryd.prog 9 heldR r n' (mapD ks xs) ∧ xs.length = ks.length ∧ RV.GoV w' w.heap.size xs vs ∧ Below w.heap.size w w' := by
  have HIH := Lib.hid ih
  have HN := Lib.hid hn
  have HG := Lib.hid hg
  have HU := Lib.hid hu
  have HLEN := Lib.hid hlen
  unfold RV.Rep at hr
  obtain ⟨al, cl, ak, ck, av, cv, rfl, hk, hh, ht, hll, hlk, hlv, hrl, hrk, hrv⟩ := hr
  have HRK := Lib.hid hrk
  have HRV := Lib.hid hrv
  clear ih hn hg hu hlk hlv hll hrl hrk hrv
  have hmk := fun kd n => run_makeMap_hint (P := Tryd.prog) 94 9 20 kd n Tryd.underlying94
  have K : Keyed Tryd.prog 9 := string_keyed Tryd.underlying9
  have hneq : ((ks.length : Int) != (vs.length : Int)) = false := by simp [hlen]
  clear hlen
  obtain ⟨cs, hcs⟩ : ∃ cs : Array Value, cs = #[.int .i64 k, .int .i64 h, .string t, .slice al l.length cl, .slice ak ks.length ck, .slice av vs.length cv] := ⟨_, rfl⟩
  have HCS := Lib.hid hcs
  clear hcs
  go_enter Tryd.func50, Tryd.ntmps50
  go_wp2_with fail
  have H0 : Hid (MadeM w (w.heap.size + 1) cs ks vs 0 ((w.alloc (.cells #[.int .i64 k, .int .i64 h, .string t, .slice al l.length cl, .slice ak ks.length ck, .slice av vs.length cv] 26)).alloc (.map #[] 0))) := by
    refine ⟨⟨[], ?_, rfl, by unfold RV.GoV; rfl⟩, ?_, ((Below.refl _ w).alloc (Nat.le_refl _) _).alloc (by simp) _, by omega⟩
    · have := World.ownsMap_made (H := Value) (w.alloc (.cells #[.int .i64 k, .int .i64 h, .string t, .slice al l.length cl, .slice ak ks.length ck, .slice av vs.length cv] 26)) Tryd.prog 9 heldR
      simpa [mapD] using this
    · rw [HCS.out]
      exact (Below.heap_alloc _ _ _ (by simp)).trans (heap_alloc_new _ _)
  go_loopg [5, 6, 7, 8, 23] (ks.length) (fun gk _ _ _ _ s23 wr => ∃ i : Nat, s23 = .int .i64 i ∧ i ≤ ks.length ∧ gk = ks.length - i ∧ Hid (MadeM w (w.heap.size + 1) cs ks vs i wr))
  case atStart => exact ⟨0, rfl, Nat.zero_le _, rfl, H0⟩
  case round =>
    obtain ⟨i, rfl, hi, rfl, HM⟩ := hrel
    by_cases hlt : i < ks.length
    · have hltv : i < vs.length := by have := HLEN.out; omega
      have k4 : wr.cell? ⟨w.heap.size, 4, none⟩ = some (.slice ak ks.length ck) := by rw [HM.out.cell, HCS.out]; rfl
      have k5 : wr.cell? ⟨w.heap.size, 5, none⟩ = some (.slice av vs.length cv) := by rw [HM.out.cell, HCS.out]; rfl
      obtain ⟨kb, ko, rfl, hks, g0⟩ := HRK.out.get i hlt
      simp only [Nat.zero_add] at g0
      have hel := cell_lt g0
      have q0 := (HM.out.below.cell (p := ⟨kb, _, none⟩) hel).trans g0
      obtain ⟨key, hkey⟩ : ∃ key, ks[i] = key := ⟨_, rfl⟩
      rw [hkey] at q0 g0 hks
      have HKEY := Lib.hid hkey
      clear hkey g0
      obtain ⟨eb, eo, c0, c1, c2, c3, c4, c5, rfl, e0, e1, e2, e3, e4, e5, hre⟩ := HRV.out.get i hltv
      simp only [Nat.zero_add] at e0 e1 e2 e3 e4 e5
      have HRE := Lib.hid hre
      have hbw := HM.out.below
      have hev := cell_lt e0
      have f0 := (hbw.cell (p := ⟨eb, _, none⟩) hev).trans e0
      have f1 := (hbw.cell (p := ⟨eb, _, none⟩) hev).trans e1
      have f2 := (hbw.cell (p := ⟨eb, _, none⟩) hev).trans e2
      have f3 := (hbw.cell (p := ⟨eb, _, none⟩) hev).trans e3
      have f4 := (hbw.cell (p := ⟨eb, _, none⟩) hev).trans e4
      have f5 := (hbw.cell (p := ⟨eb, _, none⟩) hev).trans e5
      clear e0 e1 e2 e3 e4 e5 hbw
      obtain ⟨vk, vh, vt, val, vnl, vcl, vak, vnk, vck, vav, vnv, vcv, rfl, rfl, rfl, rfl, rfl, rfl⟩ := hre.shape
      clear hre
      have hnn : vs[i].nodes ≤ n := Nat.le_trans (RV.nodes_le hltv) HN.out
      have hgi : vs[i].Good := HG.out.get i hltv
      have HC : Hid (∀ wx, Below w.heap.size w wx → Calls Tryd.prog 37 #[.agg #[.int .i64 vk, .int .i64 vh, .string vt, .slice val vnl vcl, .slice vak vnk vck, .slice vav vnv vcv]] wx (GoPost vs[i] wx)) := fun wx hb => HIH.out _ _ _ hnn hgi (HRE.out.below hb)
      clear hnn hgi
      have hp : (i : Int) ≤ 0 ∨ ∃ j, i = j + 1 ∧ ∃ pk : ByteArray, wr.cell? ⟨kb, ko + j, none⟩ = some (.string pk) ∧ Op.bytesLess pk.toList key.toList = true := by
        cases i with
        | zero => exact .inl (Int.le_refl _)
        | succ j =>
          obtain ⟨kb2, ko2, e2, _, g2⟩ := HRK.out.get j (by omega)
          cases e2
          simp only [Nat.zero_add] at g2
          refine .inr ⟨j, rfl, _, (HM.out.below.cell (p := ⟨kb, _, none⟩) hel).trans g2, ?_⟩
          have := HU.out j hlt
          rwa [HKEY.out] at this
      obtain ⟨gi, hgi⟩ : ∃ gi, gi = ks.length - (i + 1) := ⟨_, rfl⟩
      have HGI := Lib.hid hgi
      clear hgi
      rcases hp with hi0 | ⟨j, rfl, pk, j2, hless⟩
      all_goals
        go_wp2_with fail
        refine (HC.out _ HM.out.below).mono ?_
        rintro e w3 ⟨v, rfl, hv, hb3⟩
        have HM3 := Lib.hid (HM.out.kept hb3)
        have hvM := hv.mono (base' := w.heap.size + 1 + 1) (by have := HM.out.lt; omega)
        have HV := Lib.hid hvM
        obtain ⟨xs, m1, m2, m3⟩ := HM3.out.map
        have HX2 := Lib.hid m2
        have HX3 := Lib.hid m3
        clear hb3 f0 f1 f2 f3 f4 f5 m2 m3 hv
        rcases hvM.shape with rfl | ⟨ty, y, rfl⟩
        all_goals
          clear hvM
          go_wp2_with (at_mapUpdate; go_must (refine wpList_mapUpdate_own _ rfl _ _ _ 94 rfl 9 20 K Tryd.underlying94 heldR _ _ _ rfl m1 (by unfold maxLen; omega) _ _ _ rfl rfl (keyOf_string_mk Tryd.underlying9 (by unfold reachN at hks; unfold maxLen; omega)) _ [] rfl ?_); intro w5 hown5 hgrow5)
          go_roundg gi
          case measure => have := HGI.out; omega
          case rel => exact ⟨_, by go_num, by omega, HGI.out, HM3.out.store hlt hltv _ HV.out HU.out key HKEY.out xs HX2.out HX3.out hown5 hgrow5⟩
    · obtain rfl : i = ks.length := by omega
      go_wp2_with fail
      go_ret2
      obtain ⟨xs, m1, m2, m3⟩ := HM.out.map
      rw [List.take_length] at m1
      rw [HLEN.out, List.take_length] at m3
      exact ⟨_, _, xs, rfl, by omega, by omega, m1, m2, m3.mono (by omega), HM.out.below⟩

set_option maxRecDepth 100000 in
set_option maxHeartbeats 400000 in
theorem toGo_big (n : Nat) (hn4 : n ≤ 2000) : ∀ (x : RV) (v : Value) (w : World), x.nodes ≤ n → x.Good → x.Rep w v → Calls Tryd.prog 37 #[v] w (GoPost x w) := by
  induction n with
  | zero => intro x v w hn; have := x.nodes_pos; omega
  | succ n ih =>
  intro x v w hn hg hr
  obtain ⟨k, h, t, l, ks, vs⟩ := x
  have HIH := Lib.hid (ih (by omega))
  have HR := Lib.hid hr
  have HG := Lib.hid hg
  have HN := Lib.hid hn
  clear ih hn
  unfold RV.Rep at hr
  obtain ⟨al, cl, ak, ck, av, cv, rfl, hk, hh, ht, hll, hlk, hlv, hrl, hrk, hrv⟩ := hr
  clear hlk hlv hll hrl hrk hrv
  have HG' := Lib.hid hg
  have HRL : Hid (RV.RepL w al 0 l) := by have := HR.out; unfold RV.Rep at this; obtain ⟨_, _, _, _, _, _, e, _, _, _, _, _, _, h7, _⟩ := this; simp only [Value.agg.injEq, Array.mk.injEq, List.cons.injEq, Value.slice.injEq, and_true] at e; obtain ⟨_, _, _, ⟨rfl, _⟩, _⟩ := e; exact h7
  unfold RV.Good at hg
  obtain ⟨g0, g1, g2, g3, g4, g5, g6, g7, g8, g9, g10, g11, g12, g13, g14⟩ := hg
  have G6 := Lib.hid g6
  have G11 := Lib.hid g11
  have G13 := Lib.hid g13
  have G14 := Lib.hid g14
  have G9 := Lib.hid g9
  have hN : RV.nodesL l ≤ n ∧ RV.nodesL vs ≤ n := by have := HN.out; unfold RV.nodes at this; omega
  have HNN := Lib.hid hN
  clear g2 g3 g4 g5 g6 g9 g10 g11 g12 g13 g14 hN
  have hkk : k = 0 ∨ k = 1 ∨ k = 2 ∨ k = 3 ∨ k = 4 ∨ k = 5 ∨ k = 6 := by omega
  clear g0 g1
  rcases hkk with rfl | rfl | rfl | rfl | rfl | rfl | rfl
  · go_enter Tryd.func37, Tryd.ntmps37
    go_wp2_with fail
    go_ret2
    exact ⟨_, rfl, by unfold RV.Go; exact .inl ⟨rfl, rfl⟩, (Below.refl _ _).alloc (Nat.le_refl _) _⟩
  · go_enter Tryd.func37, Tryd.ntmps37
    go_wp2_with fail
    go_ret2
    exact ⟨_, rfl, by unfold RV.Go; exact .inr (.inl ⟨rfl, rfl⟩), (Below.refl _ _).alloc (Nat.le_refl _) _⟩
  · go_enter Tryd.func37, Tryd.ntmps37
    go_wp2_with fail
    go_ret2
    exact ⟨_, rfl, by unfold RV.Go; exact .inr (.inr (.inl ⟨rfl, rfl⟩)), (Below.refl _ _).alloc (Nat.le_refl _) _⟩
  · by_cases hpar : h.tmod 2 = 0
    · go_enter Tryd.func37, Tryd.ntmps37
      go_wp2_with fail
      go_ret2
      exact ⟨_, rfl, by unfold RV.Go; exact .inr (.inr (.inr (.inl ⟨rfl, by unfold numG; rw [if_pos hpar]; rfl⟩))), (Below.refl _ _).alloc (Nat.le_refl _) _⟩
    · have hrange : -9007199254740992 < h ∧ h < 9007199254740992 := by
        rcases G9.out with h9 | h9
        · exact absurd (Int.tmod_eq_zero_of_dvd (Int.dvd_of_emod_eq_zero h9)) hpar
        · exact h9
      have hpar' : (h.tmod 2 == 0) = false := by simpa using hpar
      have hq : ∀ w, (binOp .quo 90 (.float .f64 (floatOfInt .f64 h)) (.float .f64 4611686018427387904)).run Tryd.prog w = .ok (.float .f64 (halfF h)) w := fun w => run_float_arith w .quo 90 .f64 _ _ _ (half_bits h hrange.1 hrange.2)
      have HP := Lib.hid hpar
      clear hpar hrange
      go_enter Tryd.func37, Tryd.ntmps37
      go_wp2_with fail
      go_ret2
      exact ⟨_, rfl, by unfold RV.Go; exact .inr (.inr (.inr (.inl ⟨rfl, by unfold numG; rw [if_neg HP.out]; rfl⟩))), (Below.refl _ _).alloc (Nat.le_refl _) _⟩
  · go_enter Tryd.func37, Tryd.ntmps37
    go_wp2_with fail
    go_ret2
    exact ⟨_, rfl, by unfold RV.Go; exact .inr (.inr (.inr (.inr (.inl ⟨rfl, rfl⟩)))), (Below.refl _ _).alloc (Nat.le_refl _) _⟩
  · have HC := Lib.hid (listToGo_big n HIH.out l al cl (w.alloc (.cells #[.int .i64 5, .int .i64 h, .string t, .slice al l.length cl, .slice ak ks.length ck, .slice av vs.length cv] 26)) HNN.out.1 G11.out (HRL.out.below ((Below.refl _ w).alloc (Nat.le_refl _) _)) (by have := RV.len_le l; have := HNN.out.1; omega))
    go_enter Tryd.func37, Tryd.ntmps37
    go_wp2_with fail
    refine HC.out.mono ?_
    rintro e w1 ⟨a', cap', rfl, hgl, hb⟩
    have HGL := Lib.hid hgl
    have HB := Lib.hid hb
    clear hgl hb
    go_wp2_with fail
    go_ret2
    exact ⟨_, rfl, by unfold RV.Go; exact .inr (.inr (.inr (.inr (.inr (.inl ⟨rfl, _, _, rfl, HGL.out.mono (by simp)⟩))))), ((Below.refl _ _).alloc (Nat.le_refl _) _).trans (HB.out.mono (by simp))⟩
  · have HC := Lib.hid (mapToGo_any n HIH.out 6 h t l ks vs _ (w.alloc (.cells #[.int .i64 6, .int .i64 h, .string t, .slice al l.length cl, .slice ak ks.length ck, .slice av vs.length cv] 26)) HNN.out.2 G14.out G13.out G6.out (HR.out.below ((Below.refl _ w).alloc (Nat.le_refl _) _)) (by have := RV.len_le vs; have := HNN.out.2; have := G6.out; omega))
    go_enter Tryd.func37, Tryd.ntmps37
    go_wp2_with fail
    refine HC.out.mono ?_
    rintro e w1 ⟨r, n', xs, rfl, h1, h2, h3, h4, h5, hb⟩
    have HGL := Lib.hid (And.intro h1 (And.intro h2 (And.intro h3 (And.intro h4 h5))))
    have HB := Lib.hid hb
    clear hb h1 h2 h3 h4 h5
    go_wp2_with fail
    go_ret2
    obtain ⟨h1, h2, h3, h4, h5⟩ := HGL.out
    exact ⟨_, rfl, by unfold RV.Go; exact .inr (.inr (.inr (.inr (.inr (.inr ⟨rfl, r, n', xs, rfl, by simp at h1; omega, h2, h3, h4, h5.mono (by simp)⟩))))), ((Below.refl _ _).alloc (Nat.le_refl _) _).trans (HB.out.mono (by simp))⟩

theorem toGo_any (n : Nat) (hn4 : n ≤ 400) : ∀ (x : RV) (v : Value) (w : World), x.nodes ≤ n → x.Good → x.Rep w v → Calls Tryd.prog 37 #[v] w (GoPost x w) := toGo_big n (by omega)
theorem listToGo_any (n : Nat) (ih : ∀ (x : RV) (v : Value) (w : World), x.nodes ≤ n → x.Good → x.Rep w v → Calls Tryd.prog 37 #[v] w (GoPost x w))
    (l : List RV) (a : Option Addr) (cap : Nat) (w : World) (hn : RV.nodesL l ≤ n) (hg : RV.GoodL l) (hr : RV.RepL w a 0 l) (hl : l.length ≤ 400) :
    Calls Tryd.prog 45 #[.slice a l.length cap] w fun e w' => ∃ a' cap', e = .returned (.tuple #[.slice a' l.length cap', .bool true]) ∧ RV.GoL w' w.heap.size a' 0 l ∧ Below w.heap.size w w' := listToGo_big n ih l a cap w hn hg hr (by omega)
end Go.Proofs.YtjpcdbopioblaaaDoor
