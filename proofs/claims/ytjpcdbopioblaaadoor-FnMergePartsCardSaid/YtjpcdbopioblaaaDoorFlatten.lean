/- flatten walked. -/
import Derived.Test.YtjpcdbopioblaaaDoorFlatPlain
import Derived.Deep.AppendLies
namespace Go.Proofs.YtjpcdbopioblaaaDoor
open Go.RowKit

/-- The row that flatten fills: the values of 'out', that lay in the world W0 already. -/
structure FlatS (W0 : World) (base : Nat) (out : List RV) (sl : Value) (us : List Value) (wr : World) : Prop where
  row : wr.ownsRow W0.heap.size 20 1 sl out.length us
  go : RV.GoV W0 base us out
  below : Below W0.heap.size W0 wr
theorem FlatS.shape {W0 wr : World} {base : Nat} {out : List RV} {sl : Value} {us : List Value} (h : FlatS W0 base out sl us wr) : ∃ a c, sl = .slice a out.length c := by
  rcases h.row.2 with ⟨e, h0⟩ | ⟨g, cap, cur, e, _⟩
  · exact ⟨none, 0, by rw [e, h0]⟩
  · exact ⟨_, _, e⟩
def FlatPost (W0 : World) (base : Nat) (out : List RV) (e : Ending) (w' : World) : Prop := ∃ sl us, e = .returned sl ∧ FlatS W0 base out sl us w'

theorem Tryd.infoIface : (Tryd.prog.info? 20).map (fun i => (i.zero, i.size, i.bytes)) = some (some .nilIface, 1, 16) := by kernel_rfl

theorem go_not_list {w : World} {base : Nat} {x : Value} {y : RV} (h : y.Go w base x) (hk : ∀ k h t l ks vs, y = .mk k h t l ks vs → k ≠ 5) (wx : World) :
    (Instr.typeAssert x 20 85 true).run Tryd.prog wx = .ok (.tuple #[.slice none 0 0, .bool false]) wx := by
  obtain ⟨k, h', t, l, ks, vs⟩ := y
  have h5 := hk _ _ _ _ _ _ rfl
  unfold RV.Go at h
  rcases h with ⟨_, e⟩ | ⟨_, e⟩ | ⟨_, e⟩ | ⟨_, e⟩ | ⟨_, e⟩ | ⟨e, _⟩ | ⟨_, r, n, xs, e, _⟩
  · subst e; exact as_nil_list wx
  · subst e; exact as_bool_list _ wx
  · subst e; exact as_bool_list _ wx
  · subst e
    unfold numG
    split
    · exact as_int_list _ wx
    · exact as_float_list _ wx
  · subst e; exact as_str_list _ wx
  · exact absurd e h5
  · subst e; exact as_map_list _ wx
theorem go_oneCell {w : World} {base : Nat} {x : Value} {y : RV} (h : y.Go w base x) : x.oneCell' = true := by
  rcases h.shape with rfl | ⟨t, z, rfl⟩ <;> rfl

/-- Behind an append of one more value. -/
theorem FlatS.push {W0 wr w' : World} {base : Nat} {out : List RV} {y : RV} {x sl sl' : Value} {us : List Value} (h : FlatS W0 base out sl us wr) (hx : y.Go W0 base x)
    (hown : w'.ownsRow W0.heap.size 20 1 sl' (out.length + 1) (us ++ [x])) (hb : Below W0.heap.size W0 w') : FlatS W0 base (out ++ [y]) sl' (us ++ [x]) w' :=
  ⟨by simpa using hown, h.go.snoc hx, hb⟩

set_option maxRecDepth 100000 in
set_option maxHeartbeats 3200000 in
theorem flatten_all (W0 : World) (base : Nat) : ∀ (n : Nat) (l : List RV) (a : Option Addr) (c : Nat) (d : Int) (sl : Value) (acc : List RV) (us : List Value) (w : World),
    RV.nodesL l < n → RV.GoL W0 base a 0 l → FlatS W0 base acc sl us w → acc.length + RV.nodesL l ≤ 100000 → -1000 + (RV.nodesL l : Int) ≤ d → d ≤ 200 →
    Calls Tryd.prog 75 #[sl, .slice a l.length c, .float .f64 (floatOfInt .f64 d)] w (FlatPost W0 base (acc ++ RV.flatL d l)) := by
  intro n
  induction n with
  | zero => intro l a c d sl acc us w hn; omega
  | succ n ih =>
    intro l a c d sl acc us w hn hg hs hlim hd1 hd2
    have HIH := Lib.hid ih
    have HG := Lib.hid hg
    have HS := Lib.hid hs
    have HN := Lib.hid hn
    have HL := Lib.hid hlim
    have HD := Lib.hid (And.intro hd1 hd2)
    have hll := RV.len_le l
    have hlen : l.length ≤ 100000 := by omega
    have hsub : ∀ w, (binOp .sub 90 (.float .f64 (floatOfInt .f64 d)) (.float .f64 4607182418800017408)).run Tryd.prog w = .ok (.float .f64 (floatOfInt .f64 (d - 1))) w := fun w => run_float_arith w .sub 90 .f64 _ _ _ (float_sub_one d (by omega) hd2)
    have hneq : (FloatKind.f64.format.order (floatOfInt .f64 d) 0 != some .eq) = !decide (d = 0) := by rw [← float_zero d (by omega) hd2]; rfl
    have HSUB := Lib.hid hsub
    have HNEQ := Lib.hid hneq
    obtain ⟨sa, sc, rfl⟩ := hs.shape
    obtain ⟨i0, hi0, hz0, hzs, hzb⟩ := info_parts Tryd.infoIface
    have HI := Lib.hid (And.intro hi0 (And.intro hz0 (And.intro hzs hzb)))
    clear hn hg hs hlim hd1 hd2 ih hi0 hz0 hzs hzb hsub hneq hll
    unfold FlatPost
    generalize hF : floatOfInt .f64 d = F at HSUB HNEQ ⊢
    generalize hF1 : floatOfInt .f64 (d - 1) = F1 at HSUB
    have HF1 := Lib.hid hF1
    clear hF hF1
    go_enter Tryd.func75, Tryd.ntmps75
    go_wp2_with fail
    go_loopg [0, 13] (l.length) (fun gk s0 s13 wr => ∃ (i m : Nat) (ra : Option Addr) (rc : Nat) (vs : List Value), s13 = .int .i64 i ∧ i ≤ l.length ∧ gk = l.length - i ∧ s0 = .slice ra m rc ∧ Hid (m = (acc ++ RV.flatL d (l.take i)).length ∧ FlatS W0 base (acc ++ RV.flatL d (l.take i)) (.slice ra m rc) vs wr))
    case atStart => exact ⟨0, _, _, _, us, rfl, Nat.zero_le _, rfl, rfl, Lib.hid ⟨by simp [RV.flatL], by rw [List.take_zero]; simp only [RV.flatL, List.append_nil]; exact HS.out⟩⟩
    case round =>
      obtain ⟨i, m, ra, rc, vs, rfl, hi, rfl, rfl, HR⟩ := hrel
      by_cases hlt : i < l.length
      · obtain ⟨eb, eo, x, rfl, _, e0, hx⟩ := HG.out.get i hlt
        simp only [Nat.zero_add] at e0
        have HX := Lib.hid hx
        have f0 := (HR.out.2.below.cell (p := ⟨eb, _, none⟩) (cell_lt e0)).trans e0
        have hj1 : (i : Int) < (l.length : Int) := by omega
        have HM : Hid (m + 1 ≤ 100000 ∧ m + l[i].nodes ≤ 100000) := Lib.hid (by
          have h1 := HR.out.1
          have h2 := (flatL_ok d (l.take i)).2.1
          have h3 := RV.len_le (RV.flatL d (l.take i))
          have h4 := RV.nodesL_take_succ hlt
          have h5 : RV.nodesL (l.take (i + 1)) ≤ RV.nodesL l := by
            have := nodesL_append (l.take (i + 1)) (l.drop (i + 1))
            rw [List.take_append_drop] at this
            omega
          have h6 := l[i].nodes_pos
          have h7 := HL.out
          rw [List.length_append] at h1
          omega)
        clear e0 hi
        obtain ⟨k, h, t, l', ks, vs', hy⟩ : ∃ k h t l' ks vs', l[i] = .mk k h t l' ks vs' := by generalize l[i] = y; obtain ⟨k, h, t, l', ks, vs'⟩ := y; exact ⟨_, _, _, _, _, _, rfl⟩
        by_cases hcase : k = 5 ∧ d ≠ 0
        · -- a list that is flattened
          have hfl : RV.flat d l[i] = RV.flatL (d - 1) l' := by rw [hy]; unfold RV.flat; rw [if_pos hcase]
          have hnod : RV.nodesL l' + 1 ≤ l[i].nodes := by rw [hy]; unfold RV.nodes; omega
          have hle := RV.nodes_le hlt
          rw [hy] at hx
          obtain ⟨rfl, hd0⟩ := hcase
          obtain ⟨a', c', rfl, hgl⟩ : ∃ a' c', x = .iface 85 (.slice a' l'.length c') ∧ RV.GoL W0 base a' 0 l' := by
            unfold RV.Go at hx
            rcases hx with ⟨e, _⟩ | ⟨e, _⟩ | ⟨e, _⟩ | ⟨e, _⟩ | ⟨e, _⟩ | ⟨_, a, c, e, h⟩ | ⟨e, _⟩
            all_goals first | exact absurd e (by decide) | exact ⟨a, c, e, h⟩
          have a_list := as_list_list
          have hsub := HSUB.out
          have hneq : (FloatKind.f64.format.order F 0 != some .eq) = true := by rw [HNEQ.out]; simp [hd0]
          have HCALL := Lib.hid (HIH.out l' a' c' (d - 1) _ _ vs wr (by have := HN.out; omega) hgl HR.out.2 (by have := HM.out.2; have := HR.out.1; omega) (by have := HD.out.1; omega) (by have := HD.out.2; omega))
          have HFL := Lib.hid hfl
          have HHY := Lib.hid hy
          clear hx hgl hfl hnod hle hy
          go_wp2_with fail
          rw [← HF1.out]
          refine HCALL.out.mono ?_
          rintro e w1 ⟨sl1, us1, rfl, hs1⟩
          obtain ⟨qa, qc, rfl⟩ := hs1.shape
          have HS1 := Lib.hid hs1
          clear hs1 HCALL
          generalize hm1 : (acc ++ RV.flatL d (l.take i) ++ RV.flatL (d - 1) l').length = m1 at HS1 ⊢
          have HM1 := Lib.hid hm1
          clear hm1
          go_wp2_with fail
          go_roundg (l.length - (i + 1))
          case measure => omega
          case rel => exact ⟨i + 1, _, _, _, us1, by go_num, by omega, rfl, rfl, Lib.hid ⟨by rw [flatL_take d l i hlt, HFL.out, ← List.append_assoc]; exact HM1.out.symm, by rw [flatL_take d l i hlt, HFL.out, ← List.append_assoc]; exact HS1.out⟩⟩
        · have hfl : RV.flat d l[i] = [l[i]] := by rw [hy]; unfold RV.flat; rw [if_neg hcase]
          have HFL := Lib.hid hfl
          have HDC : Hid (k = 5 → (FloatKind.f64.format.order F 0 != some .eq) = false) := Lib.hid (fun e => by rw [HNEQ.out]; have : d = 0 := Classical.byContradiction fun h => hcase ⟨e, h⟩; simp [this])
          have hassert : k ≠ 5 → ∀ wx, (Instr.typeAssert x 20 85 true).run Tryd.prog wx = .ok (.tuple #[.slice none 0 0, .bool false]) wx := fun h5 wx => go_not_list HX.out (fun k1 h1 t1 l1 ks1 vs1 e => by rw [hy] at e; injection e with e; exact e ▸ h5) wx
          have HAS := Lib.hid hassert
          have hlist : k = 5 → ∃ a' n' c', x = .iface 85 (.slice a' n' c') := fun e5 => by
            rw [hy] at hx
            unfold RV.Go at hx
            rcases hx with ⟨e, _⟩ | ⟨e, _⟩ | ⟨e, _⟩ | ⟨e, _⟩ | ⟨e, _⟩ | ⟨_, a, c, e, h⟩ | ⟨e, _⟩
            all_goals first | exact ⟨_, _, _, e⟩ | (rw [e5] at e; exact absurd e (by decide))
          have HLI := Lib.hid hlist
          clear hassert hlist hy hfl hcase
          by_cases h5 : k = 5
          · obtain ⟨a', n', c', rfl⟩ := HLI.out h5
            have hneq := HDC.out h5
            have a_list := as_list_list
            clear hx h5
            have HROW : Hid ((wr.alloc (.cells #[.iface 85 (.slice a' n' c')] 20)).ownsRow W0.heap.size 20 1 (.slice ra m rc) m vs) := Lib.hid (by
              have h1 := HR.out.2.row
              rw [← HR.out.1] at h1
              exact ownsRow_same h1 fun g e => Below.heap_alloc _ _ g (h1.lt g e).2)
            go_wp2_with (at_builtin; refine wpList_append_where _ rfl _ _ 85 rfl W0.heap.size 20 i0 .nilIface 1 16 Tryd.underlying85 HI.out.1 HI.out.2.1 HI.out.2.2.1 HI.out.2.2.2 rfl (by decide) (.slice ra m rc) m vs rfl HROW.out ⟨wr.heap.size, 0, none⟩ 1 1 [.iface 85 (.slice a' n' c')] rfl rfl (World.news_of_block (heap_alloc_new _ _)) (fun x hx => by simp at hx; subst hx; rfl) (by decide) (by have := HM.out.1; unfold maxLen; omega) (by have := HM.out.1; omega) (by have := HR.out.2.below.size; simp; omega) ?_; intro v' w3 hown' hgrow3 hwhere; have HO3 := Lib.hid hown'; have HG3 := Lib.hid hgrow3; obtain ⟨qa, qn, qc, rfl⟩ : ∃ a n c, v' = .slice a n c := (by rcases hown'.2 with ⟨e, _⟩ | ⟨g, cp, cu, e, _⟩ <;> exact ⟨_, _, _, e⟩); obtain rfl : qn = m + 1 := (by rcases hown'.2 with ⟨e, h0⟩ | ⟨g, cp, cu, e, _⟩; (injection e with _ e _; omega); (injection e)); clear hown' hgrow3 hwhere)
            go_roundg (l.length - (i + 1))
            case measure => omega
            case rel => exact ⟨i + 1, m + 1, qa, qc, vs ++ [.iface 85 (.slice a' n' c')], by go_num, by omega, rfl, rfl, Lib.hid ⟨by rw [flatL_take d l i hlt, HFL.out, ← List.append_assoc, List.length_append, ← HR.out.1]; rfl, by
              rw [flatL_take d l i hlt, HFL.out, ← List.append_assoc]
              exact HR.out.2.push HX.out (by rw [← HR.out.1]; exact HO3.out) (HR.out.2.below.trans ((((Below.refl wr.heap.size wr).alloc (Nat.le_refl _) _).mono HR.out.2.below.size).grown HG3.out (by have := HR.out.2.below.size; simp; omega) (fun g e => (HROW.out.lt g e).1)))⟩⟩
          · have hassert := HAS.out h5
            clear h5
            rcases hx.shape with rfl | ⟨ty, y, rfl⟩
            · clear hx
              have HROW : Hid ((wr.alloc (.cells #[.nilIface] 20)).ownsRow W0.heap.size 20 1 (.slice ra m rc) m vs) := Lib.hid (by
                have h1 := HR.out.2.row
                rw [← HR.out.1] at h1
                exact ownsRow_same h1 fun g e => Below.heap_alloc _ _ g (h1.lt g e).2)
              go_wp2_with (at_builtin; refine wpList_append_where _ rfl _ _ 85 rfl W0.heap.size 20 i0 .nilIface 1 16 Tryd.underlying85 HI.out.1 HI.out.2.1 HI.out.2.2.1 HI.out.2.2.2 rfl (by decide) (.slice ra m rc) m vs rfl HROW.out ⟨wr.heap.size, 0, none⟩ 1 1 [.nilIface] rfl rfl (World.news_of_block (heap_alloc_new _ _)) (fun x hx => by simp at hx; subst hx; rfl) (by decide) (by have := HM.out.1; unfold maxLen; omega) (by have := HM.out.1; omega) (by have := HR.out.2.below.size; simp; omega) ?_; intro v' w3 hown' hgrow3 hwhere; have HO3 := Lib.hid hown'; have HG3 := Lib.hid hgrow3; obtain ⟨qa, qn, qc, rfl⟩ : ∃ a n c, v' = .slice a n c := (by rcases hown'.2 with ⟨e, _⟩ | ⟨g, cp, cu, e, _⟩ <;> exact ⟨_, _, _, e⟩); obtain rfl : qn = m + 1 := (by rcases hown'.2 with ⟨e, h0⟩ | ⟨g, cp, cu, e, _⟩; (injection e with _ e _; omega); (injection e)); clear hown' hgrow3 hwhere)
              go_roundg (l.length - (i + 1))
              case measure => omega
              case rel => exact ⟨i + 1, m + 1, qa, qc, vs ++ [.nilIface], by go_num, by omega, rfl, rfl, Lib.hid ⟨by rw [flatL_take d l i hlt, HFL.out, ← List.append_assoc, List.length_append, ← HR.out.1]; rfl, by
                rw [flatL_take d l i hlt, HFL.out, ← List.append_assoc]
                exact HR.out.2.push HX.out (by rw [← HR.out.1]; exact HO3.out) (HR.out.2.below.trans ((((Below.refl wr.heap.size wr).alloc (Nat.le_refl _) _).mono HR.out.2.below.size).grown HG3.out (by have := HR.out.2.below.size; simp; omega) (fun g e => (HROW.out.lt g e).1)))⟩⟩
            · clear hx
              have HROW : Hid ((wr.alloc (.cells #[.iface ty y] 20)).ownsRow W0.heap.size 20 1 (.slice ra m rc) m vs) := Lib.hid (by
                have h1 := HR.out.2.row
                rw [← HR.out.1] at h1
                exact ownsRow_same h1 fun g e => Below.heap_alloc _ _ g (h1.lt g e).2)
              go_wp2_with (at_builtin; refine wpList_append_where _ rfl _ _ 85 rfl W0.heap.size 20 i0 .nilIface 1 16 Tryd.underlying85 HI.out.1 HI.out.2.1 HI.out.2.2.1 HI.out.2.2.2 rfl (by decide) (.slice ra m rc) m vs rfl HROW.out ⟨wr.heap.size, 0, none⟩ 1 1 [.iface ty y] rfl rfl (World.news_of_block (heap_alloc_new _ _)) (fun x hx => by simp at hx; subst hx; rfl) (by decide) (by have := HM.out.1; unfold maxLen; omega) (by have := HM.out.1; omega) (by have := HR.out.2.below.size; simp; omega) ?_; intro v' w3 hown' hgrow3 hwhere; have HO3 := Lib.hid hown'; have HG3 := Lib.hid hgrow3; obtain ⟨qa, qn, qc, rfl⟩ : ∃ a n c, v' = .slice a n c := (by rcases hown'.2 with ⟨e, _⟩ | ⟨g, cp, cu, e, _⟩ <;> exact ⟨_, _, _, e⟩); obtain rfl : qn = m + 1 := (by rcases hown'.2 with ⟨e, h0⟩ | ⟨g, cp, cu, e, _⟩; (injection e with _ e _; omega); (injection e)); clear hown' hgrow3 hwhere)
              go_roundg (l.length - (i + 1))
              case measure => omega
              case rel => exact ⟨i + 1, m + 1, qa, qc, vs ++ [.iface ty y], by go_num, by omega, rfl, rfl, Lib.hid ⟨by rw [flatL_take d l i hlt, HFL.out, ← List.append_assoc, List.length_append, ← HR.out.1]; rfl, by
                rw [flatL_take d l i hlt, HFL.out, ← List.append_assoc]
                exact HR.out.2.push HX.out (by rw [← HR.out.1]; exact HO3.out) (HR.out.2.below.trans ((((Below.refl wr.heap.size wr).alloc (Nat.le_refl _) _).mono HR.out.2.below.size).grown HG3.out (by have := HR.out.2.below.size; simp; omega) (fun g e => (HROW.out.lt g e).1)))⟩⟩
      · have hil : i = l.length := by omega
        subst hil
        go_wp2_with fail
        go_ret
        exact ⟨_, _, rfl, by have := HR.out.2; rw [List.take_length] at this; exact this⟩
end Go.Proofs.YtjpcdbopioblaaaDoor
