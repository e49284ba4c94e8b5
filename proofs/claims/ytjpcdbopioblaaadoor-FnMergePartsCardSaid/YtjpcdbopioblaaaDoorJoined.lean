/- Rows of the reference's values, one behind the other: laws.joined walked; laws.listedC. -/
import Derived.Test.YtjpcdbopioblaaaDoorFlatImpl
import Derived.Deep.AppendSrc
import Derived.Deep.QuietTactic
import Derived.BigQuiet
namespace Go.Proofs.YtjpcdbopioblaaaDoor
open Go.RowKit

/-- Appending to a row of the call's own, of whatever length the other row is. -/
theorem append_src_row {P : Program} (w : World) (base : Nat) (t ty e : TypeId) (i : TypeInfo) (z : Value) (size bytes : Nat) (ht : P.underlying t = some (.slice e)) (hi : P.info? e = some i) (hz : i.zero = some z)
    (hsize : i.size = size) (hby : i.bytes = bytes) (hzs : z.cells.size = size) (hsz : 0 < size)
    (g cap n : Nat) (xs : List Value) (hown : w.ownsRow base e size (.slice (some ⟨g, 0, none⟩) n cap) n xs)
    (a : Option Addr) (m c : Nat) (news : List Value) (hl : news.length = m * size) (ha : 0 < m → ∃ ad, a = some ad ∧ ∀ j u, news[j]? = some u → w.cell? (ad.add j) = some u) (h1 : ∀ u ∈ news, u.oneCell' = true)
    (h63 : n + m ≤ maxLen) (hbytes : (n + m) * bytes ≤ 140737488355328) (hbase : base ≤ w.heap.size) (h0 : a = none → c = 0 ∨ m = 0) :
    ∃ g' cap' w', (Builtin.append_ #[t, t] ty #[.slice (some ⟨g, 0, none⟩) n cap, .slice a m c]).run P w = .ok (.slice (some ⟨g', 0, none⟩) (n + m) cap') w' ∧ w'.ownsRow base e size (.slice (some ⟨g', 0, none⟩) (n + m) cap') (n + m) (xs ++ news) ∧ w.grownBy w' (some g) := by
  rcases Nat.eq_zero_or_pos m with rfl | hm
  · have hn0 : news = [] := List.eq_nil_of_length_eq_zero (by rw [hl, Nat.zero_mul])
    subst hn0
    have hcap : n ≤ cap := by
      rcases hown.2 with ⟨e, _⟩ | ⟨g1, cap1, cur, e, _, _, hn, _⟩
      · cases e
      · injection e with _ _ e; subst e; exact hn
    have hsrc : Src P i.size t (.slice a 0 c) 0 [] w := by
      rcases a with _ | ad
      · exact Src.ofNil w ht c
      · exact Src.ofSlice w ht ad 0 c [] (by simp) (fun j u h => by simp at h) (fun u h => by cases h)
    refine ⟨g, cap, w, ?_, by simpa using hown, World.grownBy.refl _ _⟩
    exact run_append_room_src w t t ty e i ht hi g 0 n cap _ 0 [] hsrc (by omega) (fun j hj => by simp at hj) (fun j hj => by simp at hj)
  · obtain ⟨ad, rfl, hnews⟩ := ha hm
    obtain ⟨v', w', hr, h2, h3, h4⟩ := append_where (P := P) w base t ty e i z size bytes ht hi hz hsize hby hzs hsz _ n xs hown ad m c news hl hnews h1 hm h63 hbytes hbase
    obtain ⟨g', cap', rfl, _⟩ := h2.form (by omega)
    exact ⟨g', cap', w', hr, h2, h3⟩

/-- The cells of a list that lies in memory. -/
theorem RV.RepL.cellsOf {w : World} {b o : Nat} : ∀ (l : List RV) (i : Nat), RV.RepL w (some ⟨b, o, none⟩) i l → ∃ news : List Value, news.length = l.length * 6 ∧ (∀ j u, news[j]? = some u → w.cell? ⟨b, o + i * 6 + j, none⟩ = some u) ∧ (∀ u ∈ news, u.oneCell' = true) ∧
      ∀ (j : Nat) (h : j < l.length), ∃ c0 c1 c2 c3 c4 c5, (news.drop (j * 6)).take 6 = [c0, c1, c2, c3, c4, c5] ∧ l[j].Rep w (.agg #[c0, c1, c2, c3, c4, c5])
  | [], _, _ => ⟨[], by simp, by simp, by simp, by simp⟩
  | x :: xs, i, h => by
    unfold RV.RepL at h
    obtain ⟨⟨b', o', c0, c1, c2, c3, c4, c5, e, k0, k1, k2, k3, k4, k5, hr⟩, h2⟩ := h
    injection e with e
    injection e with e1 e2
    subst e1 e2
    obtain ⟨news, n1, n2, n3, n4⟩ := RV.RepL.cellsOf xs (i + 1) h2
    have hsh := hr.shape
    refine ⟨[c0, c1, c2, c3, c4, c5] ++ news, by simp [n1]; omega, fun j u hu => ?_, fun u hu => ?_, fun j hj => ?_⟩
    · rcases Nat.lt_or_ge j 6 with hj | hj
      · rw [List.getElem?_append_left (by simpa using hj)] at hu
        match j, hj, hu with
        | 0, _, hu => simp at hu; subst hu; simpa using k0
        | 1, _, hu => simp at hu; subst hu; exact k1
        | 2, _, hu => simp at hu; subst hu; exact k2
        | 3, _, hu => simp at hu; subst hu; exact k3
        | 4, _, hu => simp at hu; subst hu; exact k4
        | 5, _, hu => simp at hu; subst hu; exact k5
      · rw [List.getElem?_append_right (by simpa using hj)] at hu
        have := n2 (j - 6) u (by simpa using hu)
        rw [show o + i * 6 + j = o + (i + 1) * 6 + (j - 6) by omega]
        exact this
    · rcases List.mem_append.1 hu with h | h
      · obtain ⟨_, _, _, _, _, _, _, _, _, _, _, _, rfl, rfl, rfl, rfl, rfl, rfl⟩ := hsh
        simp at h
        rcases h with rfl | rfl | rfl | rfl | rfl | rfl <;> rfl
      · exact n3 u h
    · match j, hj with
      | 0, _ => exact ⟨c0, c1, c2, c3, c4, c5, by simp, by simpa using hr⟩
      | j + 1, hj =>
        obtain ⟨d0, d1, d2, d3, d4, d5, e, hd⟩ := n4 j (by simpa using hj)
        refine ⟨d0, d1, d2, d3, d4, d5, ?_, by simpa using hd⟩
        rw [← e, show (j + 1) * 6 = j * 6 + 6 by omega]
        rfl

theorem RowW.many {w wr w' : World} {lo : Nat} {out l : List RV} {sl sl' : Value} {xs news : List Value} (h : RowW w lo out out.length sl wr) (hxl : xs.length = out.length * 6)
    (hx : ∀ (j : Nat) (_ : j < out.length) (h : j < out.length), ∃ c0 c1 c2 c3 c4 c5, (xs.drop (j * 6)).take 6 = [c0, c1, c2, c3, c4, c5] ∧ out[j].Rep w (.agg #[c0, c1, c2, c3, c4, c5]))
    (_ : news.length = l.length * 6) (hn : ∀ (j : Nat) (h : j < l.length), ∃ c0 c1 c2 c3 c4 c5, (news.drop (j * 6)).take 6 = [c0, c1, c2, c3, c4, c5] ∧ l[j].Rep w (.agg #[c0, c1, c2, c3, c4, c5]))
    (hown : w'.ownsRow lo 26 6 sl' (out.length + l.length) (xs ++ news)) (hb : Below w.heap.size w w') : RowW w lo (out ++ l) (out ++ l).length sl' w' := by
  refine ⟨⟨_, by rw [List.length_append]; exact hown, fun j hj hjl => ?_⟩, hb, h.lo⟩
  rcases Nat.lt_or_ge j out.length with hji | hji
  · rw [List.drop_append_of_le_length (by omega), List.take_append_of_le_length (by simp; omega), List.getElem_append_left hji]
    exact hx j hji hji
  · rw [List.length_append] at hjl
    rw [List.drop_append, List.drop_eq_nil_of_le (by omega), hxl, List.nil_append, List.getElem_append_right hji, show j * 6 - out.length * 6 = (j - out.length) * 6 by omega]
    exact hn (j - out.length) (by omega)

def JoinPost (l : List RV) (w : World) (e : Ending) (w' : World) : Prop := ∃ a c, e = .returned (.slice a l.length c) ∧ (∀ wx, Below w'.heap.size w' wx → RV.RepL wx a 0 l) ∧ Below w.heap.size w w'

/-- The two appends of joined, plainly. -/
theorem joined_runs (l l' : List RV) (a b : Option Addr) (ca cb : Nat) (w : World) (hl : l.length ≤ 100000) (hl' : l'.length ≤ 100000) (h1 : RV.RepL w a 0 l) (h2 : RV.RepL w b 0 l') :
    ∃ g1 c1 w1 g2 c2 w2, (Builtin.append_ #[23, 23] 23 #[.slice (some ⟨w.heap.size, 0, none⟩) 0 0, .slice a l.length ca]).run Tryd.prog (w.alloc (.cells #[] 26)) = .ok (.slice (some ⟨g1, 0, none⟩) l.length c1) w1 ∧
      (Builtin.append_ #[23, 23] 23 #[.slice (some ⟨g1, 0, none⟩) l.length c1, .slice b l'.length cb]).run Tryd.prog w1 = .ok (.slice (some ⟨g2, 0, none⟩) (l.length + l'.length) c2) w2 ∧
      JoinPost (l ++ l') w (.returned (.slice (some ⟨g2, 0, none⟩) (l.length + l'.length) c2)) w2 := by
  have src : ∀ (l : List RV) (a : Option Addr), RV.RepL w a 0 l → ∃ news : List Value, news.length = l.length * 6 ∧ (0 < l.length → ∃ ad, a = some ad ∧ ∀ wx, Below w.heap.size w wx → ∀ j u, news[j]? = some u → wx.cell? (ad.add j) = some u) ∧ (∀ u ∈ news, u.oneCell' = true) ∧
      ∀ (j : Nat) (h : j < l.length), ∃ c0 c1 c2 c3 c4 c5, (news.drop (j * 6)).take 6 = [c0, c1, c2, c3, c4, c5] ∧ l[j].Rep w (.agg #[c0, c1, c2, c3, c4, c5]) := fun l a h => by
    rcases Nat.eq_zero_or_pos l.length with h0 | h0
    · obtain rfl := List.eq_nil_of_length_eq_zero h0
      exact ⟨[], by simp, fun h => absurd h (Nat.lt_irrefl _), by simp, by simp⟩
    · obtain ⟨b, o, _, _, _, _, _, _, rfl, _⟩ := h.get 0 h0
      obtain ⟨news, n1, n2, n3, n4⟩ := RV.RepL.cellsOf l 0 h
      refine ⟨news, n1, fun _ => ⟨_, rfl, fun wx hb j u hu => ?_⟩, n3, n4⟩
      have h3 := n2 j u hu
      rw [Nat.zero_mul, Nat.add_zero] at h3
      rw [add_mk]
      exact (hb.cell (p := ⟨b, _, none⟩) (cell_lt h3)).trans h3
  obtain ⟨n1, p1, p2, p3, p4⟩ := src l a h1
  obtain ⟨n2, q1, q2, q3, q4⟩ := src l' b h2
  have hrow0 := World.ownsRow_made (base := w.heap.size) (e := 26) (size := 6) w #[] 0 (Nat.le_refl _) (by decide) (by simp)
  have hb0 : Below w.heap.size w (w.alloc (.cells #[] 26)) := (Below.refl _ _).alloc (Nat.le_refl _) _
  obtain ⟨i0, hi0, hz0, hzs, hzb⟩ := info_parts Tryd.infoValue
  obtain ⟨g1, c1, w1, hr1, hown1, hg1⟩ := append_src_row (P := Tryd.prog) (w.alloc (.cells #[] 26)) w.heap.size 23 23 26 i0 (.agg #[.int .i64 0, .int .i64 0, .string ByteArray.empty, .slice none 0 0, .slice none 0 0, .slice none 0 0]) 6 104 Tryd.underlying23 hi0 hz0 hzs hzb rfl (by decide)
    w.heap.size 0 0 [] hrow0 a l.length ca n1 p1 (fun h => (p2 h).imp fun ad h => ⟨h.1, h.2 _ hb0⟩) p3 (by unfold maxLen; omega) (by omega) (by simp) (fun h => by
      rcases Nat.eq_zero_or_pos l.length with h0 | h0
      · exact .inr h0
      · obtain ⟨ad, e, _⟩ := p2 h0; rw [h] at e; cases e)
  have hb1 : Below w.heap.size w w1 := hb0.grown hg1 (by simp) (fun k e => by injection e; omega)
  obtain ⟨g2, c2, w2, hr2, hown2, hg2⟩ := append_src_row (P := Tryd.prog) w1 w.heap.size 23 23 26 i0 (.agg #[.int .i64 0, .int .i64 0, .string ByteArray.empty, .slice none 0 0, .slice none 0 0, .slice none 0 0]) 6 104 Tryd.underlying23 hi0 hz0 hzs hzb rfl (by decide)
    g1 c1 (0 + l.length) ([] ++ n1) hown1 b l'.length cb n2 q1 (fun h => (q2 h).imp fun ad h => ⟨h.1, h.2 _ hb1⟩) q3 (by unfold maxLen; omega) (by omega) hb1.size (fun h => by
      rcases Nat.eq_zero_or_pos l'.length with h0 | h0
      · exact .inr h0
      · obtain ⟨ad, e, _⟩ := q2 h0; rw [h] at e; cases e)
  have hb2 : Below w.heap.size w w2 := hb1.grown hg2 hb1.size (fun k e => by injection e with e; subst e; exact (hown1.lt g1 rfl).1)
  simp only [Nat.zero_add, List.nil_append] at hr1 hown1 hr2 hown2
  have hW1 : RowW w w.heap.size l l.length (.slice (some ⟨g1, 0, none⟩) l.length c1) w1 := ⟨⟨n1, hown1, fun j _ h => p4 j h⟩, hb1, Nat.le_refl _⟩
  have hW2 := hW1.many (l := l') p1 (fun j _ h => p4 j h) q1 q4 hown2 hb2
  obtain ⟨sa, sc, es, hrep⟩ := hW2.repL
  exact ⟨g1, c1, w1, g2, c2, w2, hr1, hr2, sa, sc, by rw [es], hrep, hb2⟩

set_option maxRecDepth 100000 in
theorem joined_any (l l' : List RV) (a b : Option Addr) (ca cb : Nat) (w : World) (hl : l.length ≤ 100000) (hl' : l'.length ≤ 100000) (h1 : RV.RepL w a 0 l) (h2 : RV.RepL w b 0 l') :
    Calls Tryd.prog 24 #[.slice a l.length ca, .slice b l'.length cb] w (JoinPost (l ++ l') w) := by
  obtain ⟨g1, c1, w1, g2, c2, w2, hr1, hr2, he⟩ := joined_runs l l' a b ca cb w hl hl' h1 h2
  have HE := Lib.hid he
  have HR1 := Lib.hid hr1
  have HR2 := Lib.hid hr2
  clear hr1 hr2 he h1 h2 hl hl'
  generalize JoinPost (l ++ l') w = Q at HE ⊢
  go_enter Tryd.func24, Tryd.ntmps24
  go_wp2_with (first | (at_builtin; (with_reducible refine wpList_append_run (o := ⟨some 7, _, _, _, _, _⟩) _ ?a1 (.tmp 5) (.tmp 6) 23 ?a2 (.slice (some ⟨w.heap.size, 0, none⟩) 0 0) (.slice a l.length ca) ?a3 ?a4 ?a5); (case a1 => rfl); (case a2 => rfl); (case a3 => rfl); (case a4 => rfl); refine ⟨_, _, HR1.out, ?_⟩) | (at_builtin; (with_reducible refine wpList_append_run (o := ⟨some 9, _, _, _, _, _⟩) _ ?b1 (.tmp 7) (.tmp 8) 23 ?b2 (.slice (some ⟨g1, 0, none⟩) l.length c1) (.slice b l'.length cb) ?b3 ?b4 ?b5); (case b1 => rfl); (case b2 => rfl); (case b3 => rfl); (case b4 => rfl); refine ⟨_, _, HR2.out, ?_⟩))
  exact HE.out

/-- An answer that is a list, taken apart. -/
theorem ResIs.list {l : List RV} {w : World} {r : Value} (h : ResIs (arrT l) w r) : ∃ al ac ak ck av cv, r = .agg #[.int .i64 5, .int .i64 0, .string ByteArray.empty, .slice al l.length ac, .slice ak 0 ck, .slice av 0 cv, .int .i64 0] ∧ RV.RepL w al 0 l := by
  obtain ⟨k, h, t', al, n, cl, ak, m, ck, av, q, cv, e, hr⟩ := h
  unfold arrT RV.Rep at hr
  obtain ⟨al', cl', ak', ck', av', cv', e2, _, _, _, _, _, _, hl, _⟩ := hr
  simp only [Value.agg.injEq, Array.mk.injEq, List.cons.injEq, Value.int.injEq, Value.string.injEq, Value.slice.injEq, true_and, and_true] at e2
  obtain ⟨rfl, rfl, rfl, ⟨rfl, rfl, rfl⟩, ⟨rfl, rfl, rfl⟩, rfl, rfl, rfl⟩ := e2
  exact ⟨_, _, _, _, _, _, e, hl⟩

set_option maxRecDepth 100000 in
theorem listedC_any (al ak av : Option Addr) (n ac nk ck nv cv : Nat) (w : World) :
    Calls Tryd.prog 21 #[.agg #[.int .i64 5, .int .i64 0, .string ByteArray.empty, .slice al n ac, .slice ak nk ck, .slice av nv cv, .int .i64 0]] w fun e w' => e = .returned (.tuple #[.slice al n ac, .bool true]) ∧ Below w.heap.size w w' := by
  have HB := Lib.hid (fun o => (Below.refl w.heap.size w).alloc (Nat.le_refl _) o)
  go_enter Tryd.func21, Tryd.ntmps21
  go_wp2_with fail
  go_quiet (fail)
  go_wp2_with fail
  go_ret2
  exact ⟨rfl, (HB.out _).trans ⟨rfl, rfl, rfl, Nat.le_refl _, fun _ _ => rfl⟩⟩
end Go.Proofs.YtjpcdbopioblaaaDoor
