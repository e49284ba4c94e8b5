/- gojq's deepMergeObjects walked: the function itself. -/
import Derived.Test.YtjpcdbopioblaaaDoorDeepMerge
namespace Go.Proofs.YtjpcdbopioblaaaDoor
open Go.RowKit Go.WideMaps Go.Maps

theorem below_map {w w' : World} {r n : Nat} {D : DataW Value} (hb : Below w.heap.size w w') (h : w.ownsMap Tryd.prog 9 heldR r n D) : w'.ownsMap Tryd.prog 9 heldR r n D := by
  have hlt := h.lt
  obtain ⟨es, clock, h1, h2⟩ := h
  exact ⟨es, clock, (hb.block r hlt).trans h1, h2⟩
theorem DMJ.start {N : Nat} {a b : RV} {xa xb : List Value} {S : Nat → Prop} {w w2 w0 : World} {n : Nat} (hxb : xb.length = b.keys.length) (hm : w2.ownsMap Tryd.prog 9 heldR w.heap.size n (mapD a.keys xa)) (hb : Below w.heap.size w w2) (hg : w2.grownBy w0 none) (hs : w0.heap.size = w2.heap.size + 1)
    (hva : RV.GoSV w S xa a.vals) (hvb : RV.GoSV w S xb b.vals) : DMJ N a b xa xb w.heap.size w2.heap.size S w w0 n (mapD a.keys xa) (Maps.has (mapD b.keys xb)) := by
  have hb0 : Below w.heap.size w w0 := hb.grown hg hb.size (fun k hk => by cases hk)
  have hsame : SameOn S w w0 := SameOn.of_below hb0
  exact ⟨MJ.start hxb, hb0, by omega, hva.keep hsame (fun k h hk => .inl ⟨h, hk⟩), hvb.keep hsame (fun k h hk => .inl ⟨h, hk⟩), hm.kept hg (by simp)⟩
/-- An entry of the second map has come. -/
theorem DMJ.entry {N : Nat} {a b : RV} {xa xb : List Value} {m it : Nat} {S : Nat → Prop} {w wr w1 : World} {n : Nat} {Dm : DataW Value} {left : Lit → Bool} {key : ByteArray} {c : Value} {kl : Lit} {y : DataW Value × List MemPlace} (h : DMJ N a b xa xb m it S w wr n Dm left) (hb : b.Good) (hxb : xb.length = b.keys.length)
    (hkey : keyOf Tryd.prog 9 (.string key) = some kl) (hv : heldR c = some y) (hat : ∀ zd, (mapD b.keys xb).atKey kl zd = y.1) (hg : wr.grownBy w1 (some it)) (hs : w1.heap.size = wr.heap.size) (hmi : m < it) (hwi : w.heap.size ≤ it) :
    kl = kS key ∧ key.size ≤ maxLen ∧ ∃ ty, b.AtR key ty ∧ ty.GoS w1 (fun k => (S k ∧ k < w.heap.size) ∨ it < k) c ∧ DMJ N a b xa xb m it S w w1 n Dm left := by
  obtain ⟨s, e, hkl, hsz⟩ := keyOf_text Tryd.underlying9 hkey
  injection e with e
  subst e hkl
  have hsame : SameOn (fun k => (S k ∧ k < w.heap.size) ∨ it < k) wr w1 := SameOn.of_gb hg (by rintro (⟨_, h⟩ | h) <;> omega)
  have hd := h.kept hsame (below_gb h.below hg h.below.size hwi) (by have := h.lt; omega) (h.own.kept hg (fun e => by injection e with e; omega))
  have hk := (has_mapD_key hxb key).1 (Maps.has_true_of_atKey hat)
  obtain ⟨i, hi, rfl⟩ := List.getElem_of_mem hk
  have h1 := mapD_get b.keys xb hxb hb.keys.1 i hi (by omega) .nil
  have h2 := hat .nil
  unfold kS at h2
  rw [h1, heldR_inv hv] at h2
  injection h2 with h2
  have hiv : i < b.vals.length := by rw [← hb.keys.2.1]; exact hi
  refine ⟨rfl, hsz, b.vals[i], ⟨i, hi, hiv, rfl, rfl⟩, ?_, hd⟩
  rw [← h2]
  exact hd.gb.get i hiv (by omega)
/-- What stands there already. -/
theorem DMJ.there {N : Nat} {a b : RV} {xa xb : List Value} {m it : Nat} {S : Nat → Prop} {w w1 : World} {n : Nat} {Dm : DataW Value} {left : Lit → Bool} {key : ByteArray} (h : DMJ N a b xa xb m it S w w1 n Dm left) (ha : a.Good) (hxa : xa.length = a.keys.length) (hl : left (kS key) = true) (hka : key ∈ a.keys) :
    ∃ tx u, a.AtR key tx ∧ tx.GoS w1 (fun k => (S k ∧ k < w.heap.size) ∨ it < k) u ∧ Dm.atKey (kS key) (.held .nilIface) = .held u ∧ Maps.has Dm (kS key) = true := by
  have hh := h.mj.has (kS key)
  rw [(has_mapD_key hxa key).2 hka, Bool.true_or] at hh
  have ho := h.mj.old key hka (by rw [hl]; simp) (.held .nilIface)
  obtain ⟨j, hj, rfl⟩ := List.getElem_of_mem hka
  have h1 := mapD_get a.keys xa hxa ha.keys.1 j hj (by omega) (.held .nilIface)
  have hjv : j < a.vals.length := by rw [← ha.keys.2.1]; exact hj
  refine ⟨a.vals[j], xa[j]'(by omega), ⟨j, hj, hjv, rfl, rfl⟩, h.ga.get j hjv (by omega), ?_, hh⟩
  rw [ho]
  exact h1
theorem DMJ.none {N : Nat} {a b : RV} {xa xb : List Value} {m it : Nat} {S : Nat → Prop} {w w1 : World} {n : Nat} {Dm : DataW Value} {left : Lit → Bool} {key : ByteArray} (h : DMJ N a b xa xb m it S w w1 n Dm left) (hxa : xa.length = a.keys.length) (hl : left (kS key) = true) (hka : key ∉ a.keys) :
    Dm.atKey (kS key) (.held .nilIface) = .held .nilIface ∧ Maps.has Dm (kS key) = false := by
  have hh := h.mj.has (kS key)
  have h1 : Maps.has (mapD a.keys xa) (kS key) = false := by
    cases e : Maps.has (mapD a.keys xa) (kS key) with
    | false => rfl
    | true => exact absurd ((has_mapD_key hxa key).1 e) hka
  rw [h1, hl] at hh
  simp only [Bool.not_true, Bool.and_false, Bool.or_false] at hh
  exact ⟨Maps.atKey_of_not_has hh _, hh⟩
/-- Stored. -/
theorem DMJ.put {N : Nat} {a b : RV} {xa xb : List Value} {m it : Nat} {S : Nat → Prop} {w w3 w4 : World} {n : Nat} {Dm : DataW Value} {left : Lit → Bool} {key : ByteArray} {v : Value} {z : RV} (h : DMJ N a b xa xb m it S w w3 n Dm left) (hxb : xb.length = b.keys.length) (hk : key ∈ b.keys) (hz : z.GoS w3 (fun k => (S k ∧ k < w.heap.size) ∨ it < k) v) (hZ : Zb N a b key z)
    (ho : w4.ownsMap Tryd.prog 9 heldR m (n + 1) (Dm.put (kS key) (.held v))) (hg : w3.grownBy w4 (some m)) (hmi : m < it) (hwm : w.heap.size ≤ m) : DMJ N a b xa xb m it S w w4 (n + 1) (Dm.put (kS key) (.held v)) (fun q => left q && !q.sameKey (kS key)) := by
  have hsame : SameOn (fun k => (S k ∧ k < w.heap.size) ∨ it < k) w3 w4 := SameOn.of_gb hg (by rintro (⟨_, h⟩ | h) <;> omega)
  exact ⟨(h.mj.step hxb h.own.isMap hk hz hZ).kept hsame, below_gb h.below hg h.below.size hwm, Nat.lt_of_lt_of_le h.lt hg.size, h.ga.keep hsame (fun _ h _ => h), h.gb.keep hsame (fun _ h _ => h), ho⟩
/-- Behind the product of two elements. -/
theorem DMJ.called {N : Nat} {a b : RV} {xa xb : List Value} {m it : Nat} {S : Nat → Prop} {w w1 w3 : World} {n : Nat} {Dm : DataW Value} {left : Lit → Bool} (h : DMJ N a b xa xb m it S w w1 n Dm left) (hb : Below w1.heap.size w1 w3) : DMJ N a b xa xb m it S w w3 n Dm left :=
  h.kept (SameOn.of_below hb) (h.below.trans (hb.mono h.below.size)) (Nat.lt_of_lt_of_le h.lt hb.size) (below_map hb h.own)
theorem RV.AtR.nodes_le {t : RV} {key : ByteArray} {y : RV} (h : t.AtR key y) : y.nodes ≤ RV.nodesL t.vals := by
  obtain ⟨i, _, h2, _, rfl⟩ := h
  exact RV.nodes_le h2
theorem dm_fin {N : Nat} {a b : RV} {xa xb : List Value} {S : Nat → Prop} {w w2 wr : World} {n : Nat} {Dm : DataW Value} {left : Lit → Bool} (h : DMJ N a b xa xb w.heap.size w2.heap.size S w wr n Dm left) (ha : a.Good) (hxa : xa.length = a.keys.length) (hxb : xb.length = b.keys.length) (hl : ∀ k, left k = false) (hn : n ≤ 1000000 ∧ w.heap.size ≤ w2.heap.size) :
    DMPost (N + 1) a b S w (.returned (.iface 94 (.map (some w.heap.size)))) wr := by
  obtain ⟨c, h1, h2, h3⟩ := h.mj.done ha hxa hxb h.ga hl h.own (T' := fun k => S k ∨ w.heap.size ≤ k) (fun k hk => hk.elim (fun h => .inl h.1) (fun h => .inr (by omega))) (.inr (Nat.le_refl _)) hn.1
  exact ⟨c, _, rfl, h1, h2, h3, h.below⟩
theorem copy_new {w : World} {ra na : Nat} {ks : List ByteArray} {xa : List Value} (hm : w.ownsMap Tryd.prog 9 heldR ra na (mapD ks xa)) (hu : KeysUp ks) (hxa : xa.length = ks.length) (hl : ks.length ≤ 2000) :
    Calls Tryd.prog 90 #[.map (some w.heap.size), .map (some ra)] (w.alloc (.map #[] 0)) fun e w' => e = .returned (.tuple #[]) ∧ w'.ownsMap Tryd.prog 9 heldR w.heap.size ks.length (mapD ks xa) ∧ Below w.heap.size w w' ∧ w.heap.size < w'.heap.size := by
  have K : Keyed Tryd.prog 9 := string_keyed Tryd.underlying9
  have hs := size_mapD ks xa hxa
  have h := AnyX.maps_Copy Go.Proofs.Tryd.copyM K heldR w.heap.size ra 0 na (.map []) (mapD ks xa) (w.alloc (.map #[] 0)) (World.ownsMap_made w _ _ _) (hm.alloc _) (by have := hm.lt; omega) (by rw [hs]; unfold maxLen; omega)
  change Calls Tryd.prog 90 _ _ _ at h
  refine h.mono fun e w' ⟨he, h1, h2, h3⟩ => ?_
  rw [hs, merge_empty hu hxa (h1.canon K) (h2.canon K), Nat.zero_add] at h1
  exact ⟨he, h1, below_gb ((Below.refl _ w).alloc (Nat.le_refl _) _) h3 (by simp) (Nat.le_refl _), by have := h3.size; simp at this; omega⟩

set_option maxRecDepth 100000 in
set_option maxHeartbeats 4000000 in
theorem deepMerge_all (N : Nat) (hN : N ≤ 2000) : ∀ (a b : RV) (ra rb : Nat) (S : Nat → Prop) (w : World), a.Good → b.Good → a.kd = 6 → b.kd = 6 → a.nodes + b.nodes ≤ N → a.GoS w S (.iface 94 (.map (some ra))) → b.GoS w S (.iface 94 (.map (some rb))) →
    Calls Tryd.prog 77 #[.map (some ra), .map (some rb)] w (DMPost N a b S w) := by
  induction N with
  | zero => intro a b ra rb S w _ _ _ _ hn; have := a.nodes_pos; omega
  | succ N ih =>
  intro a b ra rb S w hga hgb hka hkb hn ha hb
  have HIH := Lib.hid (ih (by omega))
  have HGA := Lib.hid (And.intro hga hka)
  have HGB := Lib.hid (And.intro hgb hkb)
  have HNN := Lib.hid hn
  obtain ⟨ra', na, xa, e, hSa, hna, hma, hxa, hva⟩ := gos_map ha hka
  injection e with _ e; injection e with e; injection e with e; subst e
  obtain ⟨rb', nb, xb, e, hSb, hnb, hmb, hxb, hvb⟩ := gos_map hb hkb
  injection e with _ e; injection e with e; injection e with e; subst e
  have K : Keyed Tryd.prog 9 := string_keyed Tryd.underlying9
  have hmk := fun kd n => run_makeMap_hint (P := Tryd.prog) 94 9 20 kd n Tryd.underlying94
  have hla := fun ty => hma.len Tryd.underlying94 ty
  have hlb := fun ty => hmb.len Tryd.underlying94 ty
  have hsa := size_mapD a.keys xa hxa
  have hsb := size_mapD b.keys xb hxb
  rw [hsa] at hla
  rw [hsb] at hlb
  have hlenA : a.keys.length ≤ 2000 := by have := RV.len_le a.vals; have := a.nodes_map; have := hga.keys.2.1; omega
  have hlenB : b.keys.length ≤ 2000 := by have := RV.len_le b.vals; have := b.nodes_map; have := hgb.keys.2.1; omega
  have HMA := Lib.hid (And.intro hma (And.intro hxa (And.intro hva hsa)))
  have HMB := Lib.hid (And.intro hmb (And.intro hxb (And.intro hvb hsb)))
  have HLT := Lib.hid (And.intro hma.lt hmb.lt)
  have HC : Hid (Calls Tryd.prog 90 #[.map (some w.heap.size), .map (some ra)] (w.alloc (.map #[] 0)) fun e w' => e = .returned (.tuple #[]) ∧ w'.ownsMap Tryd.prog 9 heldR w.heap.size a.keys.length (mapD a.keys xa) ∧ Below w.heap.size w w' ∧ w.heap.size < w'.heap.size) := Lib.hid (copy_new hma hga.keys.1 hxa (by omega))
  clear ih hga hgb hka hkb hn ha hb hma hmb hxa hxb hva hvb hsa hsb hSa hSb
  go_enter Tryd.func77, Tryd.ntmps77
  go_wp2_with fail
  refine HC.out.mono ?_
  rintro e w2 ⟨rfl, hm2, hb2, hlt2⟩
  have hmb2 := below_map hb2 HMB.out.1
  have HM2 := Lib.hid (And.intro hm2 (And.intro hb2 hlt2))
  clear hm2 hb2 hlt2 HC
  go_wp2_with (at_range; refine wpList_range_own _ rfl _ 94 rfl 9 20 K Tryd.underlying94 heldR rb nb _ rfl hmb2 ?_; intro w0 hrg0 hg0 hs0)
  go_frame
  have HD0 := Lib.hid (DMJ.start (N := N) (S := S) HMB.out.2.1 HM2.out.1 HM2.out.2.1 hg0 hs0 HMA.out.2.2.1 HMB.out.2.2.1)
  have hsz2 := HM2.out.2.2
  have hltb := HLT.out.2
  rw [HMB.out.2.2.2] at hrg0
  go_loopg [25] (b.keys.length) (fun gk _ wr => ∃ (left : Lit → Bool) (n : Nat) (Dm : DataW Value), wr.ranges Tryd.prog 9 heldR rb w2.heap.size nb (mapD b.keys xb) left gk ∧ n + gk ≤ a.keys.length + b.keys.length ∧ Hid (DMJ N a b xa xb w.heap.size w2.heap.size S w wr n Dm left))
  case atStart => exact ⟨_, _, _, hrg0, Nat.le_refl _, HD0⟩
  case round =>
    obtain ⟨left, n, Dm, hrg, hnn, HJ⟩ := hrel
    clear HD0 hrg0
    go_wp2_with (at_next; refine wpList_next_ranges _ rfl _ rfl 9 K heldR Value.string id (fun key kl h => by obtain ⟨s, hs, _⟩ := keyOf_text Tryd.underlying9 h; exact ⟨s, hs⟩) (fun v _ _ => ⟨v, rfl⟩) rb w2.heap.size nb _ _ _ rfl hrg ?_ ?_)
    · intro hc0 hl0
      go_wp2_with fail
      go_ret
      exact dm_fin HJ.out HGA.out.1 HMA.out.2.1 HMB.out.2.1 hl0 (by omega)
    · intro key c kl yd yp w1 cnt1 hkey hlx hv hat hrg1 hlt hg1 hs1 hen
      obtain ⟨rfl, hksz, ty, hty, hgy, hj1⟩ := HJ.out.entry HGB.out.1 HMB.out.2.1 (y := (yd, yp)) hkey hv hat hg1 hs1 (by omega) (by omega)
      have HY := Lib.hid (And.intro hty hgy)
      have HJ1 := Lib.hid hj1
      have HRG := Lib.hid hrg1
      have HYV := Lib.hid hgy.shape
      have howm := hj1.own
      clear hty hgy hj1 hg1 hs1 hat hv hrg hrg1 HJ
      by_cases hka : key ∈ a.keys
      · obtain ⟨tx, u, htx, hgu, hat, hhas⟩ := HJ1.out.there HGA.out.1 HMA.out.2.1 hlx hka
        have HX := Lib.hid (And.intro htx hgu)
        have HXV := Lib.hid hgu.shape
        have HKA := Lib.hid hka
        by_cases hk6 : tx.kd = 6 ∧ ty.kd = 6
        · have HK6 := Lib.hid hk6
          obtain ⟨rx, _, _, rfl, -, -, -, -, -⟩ := gos_map hgu hk6.1
          obtain ⟨ry, _, _, rfl, -, -, -, -, -⟩ := gos_map HY.out.2 hk6.2
          have HCALL := Lib.hid (HIH.out tx ty rx ry _ w1 (htx.good HGA.out.1) (HY.out.1.good HGB.out.1) hk6.1 hk6.2 (by have h1 := htx.nodes_le; have h2 := HY.out.1.nodes_le; have h3 := HNN.out; have := a.nodes_map; have := b.nodes_map; omega) hgu HY.out.2)
          have hax := fun wx => as_map_map (.map (some rx)) wx
          have hay := fun wx => as_map_map (.map (some ry)) wx
          clear hk6 htx hgu hka
          go_wp2_with (at_lookup; refine wpList_lookup_held rfl _ _ 94 rfl 9 20 K Tryd.underlying94 (by kernel_rfl) w.heap.size _ _ rfl howm _ _ rfl hkey _ _ hat hhas ?_)
          refine HCALL.out.mono ?_
          rintro e w3 ⟨z, x, rfl, hmz, -, hgz, hb3⟩
          have hzs := hgz.shape
          have HG3 : Hid (z.GoS w3 (fun k => (S k ∧ k < w.heap.size) ∨ w2.heap.size < k) x) := Lib.hid (hgz.keep (fun _ _ _ => rfl) (fun k h _ => h.elim id fun h => .inr (Nat.lt_of_lt_of_le HJ1.out.lt h)))
          have HJ3 := Lib.hid (HJ1.out.called hb3)
          have howm3 := HJ3.out.own
          have hrg3 := HRG.out.kept (show w1.grownBy w3 none from ⟨hb3.os, hb3.tape, hb3.output, hb3.size, fun k hk _ => hb3.block k hk⟩) (by simp) (by simp)
          have HRG3 := Lib.hid hrg3
          have HZ : Hid (Zb N a b key z) := Lib.hid fun y' hy' => ⟨fun x' hx' => by
            have e1 := hx'.one HGA.out.1 HX.out.1
            have e2 := hy'.one HGB.out.1 HY.out.1
            subst e1 e2
            exact ⟨fun _ => hmz, fun h => absurd HK6.out h⟩, fun h => absurd HKA.out h⟩
          clear hgz hb3 hrg3 hmz howm HCALL
          rcases hzs with rfl | ⟨tt, zz, rfl⟩
          all_goals
            go_wp2_with (at_mapUpdate; refine wpList_mapUpdate_own _ rfl _ _ _ 94 rfl 9 20 K Tryd.underlying94 heldR _ _ _ rfl howm3 (by unfold maxLen; omega) _ _ _ rfl rfl hkey _ [] rfl ?_; intro w4 hown4 hgrow4)
            have HJ4 := Lib.hid (HJ3.out.put HMB.out.2.1 HY.out.1.mem HG3.out HZ.out hown4 hgrow4 hsz2 (Nat.le_refl _))
            have hrg4 := HRG3.out.kept hgrow4 (fun e => by injection e with e; omega) (fun e => by injection e with e; omega)
            go_roundg cnt1
            case measure => exact hlt
            case rel => exact ⟨_, _, _, hrg4, by omega, HJ4⟩
        · have HZ : Hid (Zb N a b key ty) := Lib.hid fun y' hy' => ⟨fun x' hx' => by
            have e1 := hx'.one HGA.out.1 HX.out.1
            have e2 := hy'.one HGB.out.1 HY.out.1
            subst e1 e2
            exact ⟨fun h => absurd h hk6, fun _ => rfl⟩, fun h => absurd HKA.out h⟩
          by_cases hx6 : tx.kd = 6
          · have hy6 : ty.kd ≠ 6 := fun h => hk6 ⟨hx6, h⟩
            obtain ⟨rx, _, _, rfl, -, -, -, -, -⟩ := gos_map hgu hx6
            have hax := fun wx => as_map_map (.map (some rx)) wx
            have hay := fun wx => go_not_map HY.out.2.toGo hy6 wx
            clear hk6 htx hgu hka hx6 hy6
            rcases HYV.out with rfl | ⟨tt, zz, rfl⟩
            all_goals
              go_wp2_with (first | (at_lookup; refine wpList_lookup_held rfl _ _ 94 rfl 9 20 K Tryd.underlying94 (by kernel_rfl) w.heap.size _ _ rfl howm _ _ rfl hkey _ _ hat hhas ?_) | (at_mapUpdate; refine wpList_mapUpdate_own _ rfl _ _ _ 94 rfl 9 20 K Tryd.underlying94 heldR _ _ _ rfl howm (by unfold maxLen; omega) _ _ _ rfl rfl hkey _ [] rfl ?_; intro w4 hown4 hgrow4))
              have HJ4 := Lib.hid (HJ1.out.put HMB.out.2.1 HY.out.1.mem HY.out.2 HZ.out hown4 hgrow4 hsz2 (Nat.le_refl _))
              have hrg4 := HRG.out.kept hgrow4 (fun e => by injection e with e; omega) (fun e => by injection e with e; omega)
              go_roundg cnt1
              case measure => exact hlt
              case rel => exact ⟨_, _, _, hrg4, by omega, HJ4⟩
          · have hax := fun wx => go_not_map hgu.toGo hx6 wx
            clear hk6 htx hgu hka hx6
            rcases HXV.out with rfl | ⟨t1, z1, rfl⟩
            all_goals
              rcases HYV.out with rfl | ⟨tt, zz, rfl⟩
              all_goals
                go_wp2_with (first | (at_lookup; refine wpList_lookup_held rfl _ _ 94 rfl 9 20 K Tryd.underlying94 (by kernel_rfl) w.heap.size _ _ rfl howm _ _ rfl hkey _ _ hat hhas ?_) | (at_mapUpdate; refine wpList_mapUpdate_own _ rfl _ _ _ 94 rfl 9 20 K Tryd.underlying94 heldR _ _ _ rfl howm (by unfold maxLen; omega) _ _ _ rfl rfl hkey _ [] rfl ?_; intro w4 hown4 hgrow4))
                have HJ4 := Lib.hid (HJ1.out.put HMB.out.2.1 HY.out.1.mem HY.out.2 HZ.out hown4 hgrow4 hsz2 (Nat.le_refl _))
                have hrg4 := HRG.out.kept hgrow4 (fun e => by injection e with e; omega) (fun e => by injection e with e; omega)
                go_roundg cnt1
                case measure => exact hlt
                case rel => exact ⟨_, _, _, hrg4, by omega, HJ4⟩
      · obtain ⟨hat, hhas⟩ := HJ1.out.none HMA.out.2.1 hlx hka
        have HZ : Hid (Zb N a b key ty) := Lib.hid fun y' hy' => ⟨fun x hx => absurd hx.mem hka, fun _ => (hy'.one HGB.out.1 HY.out.1).symm⟩
        clear hka
        rcases HYV.out with rfl | ⟨tt, zz, rfl⟩
        all_goals
          go_wp2_with (first | (at_lookup; refine wpList_lookup_held rfl _ _ 94 rfl 9 20 K Tryd.underlying94 (by kernel_rfl) w.heap.size _ _ rfl howm _ _ rfl hkey _ _ hat hhas ?_) | (at_mapUpdate; refine wpList_mapUpdate_own _ rfl _ _ _ 94 rfl 9 20 K Tryd.underlying94 heldR _ _ _ rfl howm (by unfold maxLen; omega) _ _ _ rfl rfl hkey _ [] rfl ?_; intro w4 hown4 hgrow4))
          have HJ4 := Lib.hid (HJ1.out.put HMB.out.2.1 HY.out.1.mem HY.out.2 HZ.out hown4 hgrow4 hsz2 (Nat.le_refl _))
          have hrg4 := HRG.out.kept hgrow4 (fun e => by injection e with e; omega) (fun e => by injection e with e; omega)
          go_roundg cnt1
          case measure => exact hlt
          case rel => exact ⟨_, _, _, hrg4, by omega, HJ4⟩
end Go.Proofs.YtjpcdbopioblaaaDoor
