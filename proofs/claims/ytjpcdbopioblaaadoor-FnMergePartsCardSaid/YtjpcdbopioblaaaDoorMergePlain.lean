/- Products of objects, plainly: what the merged tree is, that it is one tree, how great it is. No walk. -/
import Derived.Test.YtjpcdbopioblaaaDoorMapGet
namespace Go.Proofs.YtjpcdbopioblaaaDoor
open Go.RowKit

def RV.kd : RV → Int | .mk k _ _ _ _ _ => k
def RV.keys : RV → List ByteArray | .mk _ _ _ _ ks _ => ks
def RV.vals : RV → List RV | .mk _ _ _ _ _ vs => vs
/-- At this key the map has this value. -/
def RV.AtR (t : RV) (key : ByteArray) (y : RV) : Prop := ∃ i, ∃ (h : i < t.keys.length) (h' : i < t.vals.length), t.keys[i] = key ∧ t.vals[i] = y
/-- The product of two maps. -/
def MergeN : Nat → RV → RV → RV → Prop
  | 0, _, _, _ => False
  | n + 1, a, b, c => ∃ ks zs, c = .mk 6 0 ByteArray.empty [] ks zs ∧ KeysUp ks ∧ ks.length = zs.length ∧ (∀ key, key ∈ ks ↔ key ∈ a.keys ∨ key ∈ b.keys) ∧
      ∀ i, ∀ (h : i < ks.length) (h' : i < zs.length),
        (∀ y, b.AtR ks[i] y → (∀ x, a.AtR ks[i] x → (x.kd = 6 ∧ y.kd = 6 → MergeN n x y zs[i]) ∧ (¬ (x.kd = 6 ∧ y.kd = 6) → zs[i] = y)) ∧ (ks[i] ∉ a.keys → zs[i] = y)) ∧
        (ks[i] ∉ b.keys → ∀ x, a.AtR ks[i] x → zs[i] = x)

theorem KeysUp.ne {ks : List ByteArray} (h : KeysUp ks) {i j : Nat} (hi : i < ks.length) (hj : j < ks.length) (hij : i < j) : ks[i] ≠ ks[j] := fun e => by
  have := h.lt' hij hj
  rw [e, less_irrefl] at this
  cases this
theorem KeysUp.nodup {ks : List ByteArray} (h : KeysUp ks) : ks.Nodup := by
  unfold List.Nodup
  exact List.pairwise_iff_getElem.2 fun i j hi hj hij => h.ne hi hj hij
theorem KeysUp.pairwise {ks : List ByteArray} (h : KeysUp ks) : ks.Pairwise (fun a b => Op.bytesLess a.toList b.toList = true) :=
  List.pairwise_iff_getElem.2 fun _ _ _ hj hij => h.lt' hij hj
theorem keys_ext : ∀ {ks ks' : List ByteArray}, ks.Pairwise (fun a b => Op.bytesLess a.toList b.toList = true) → ks'.Pairwise (fun a b => Op.bytesLess a.toList b.toList = true) → (∀ k, k ∈ ks ↔ k ∈ ks') → ks = ks'
  | [], [], _, _, _ => rfl
  | [], b :: r, _, _, h => by have := (h b).2 (by simp); simp at this
  | a :: l, [], _, _, h => by have := (h a).1 (by simp); simp at this
  | a :: l, b :: r, hp, hq, h => by
    have hp' := List.pairwise_cons.1 hp
    have hq' := List.pairwise_cons.1 hq
    have e : a = b := by
      have h1 := (h a).1 (by simp)
      have h2 := (h b).2 (by simp)
      rcases List.mem_cons.1 h1 with h1 | h1
      · exact h1
      · rcases List.mem_cons.1 h2 with h2 | h2
        · exact h2.symm
        · have h3 := less_trans _ _ _ (hq'.1 a h1) (hp'.1 b h2)
          rw [less_irrefl] at h3
          cases h3
    subst e
    rw [keys_ext hp'.2 hq'.2 fun k => ?_]
    constructor
    · intro hk
      rcases List.mem_cons.1 ((h k).1 (List.mem_cons_of_mem _ hk)) with h1 | h1
      · subst h1
        have := hp'.1 k hk
        rw [less_irrefl] at this
        cases this
      · exact h1
    · intro hk
      rcases List.mem_cons.1 ((h k).2 (List.mem_cons_of_mem _ hk)) with h1 | h1
      · subst h1
        have := hq'.1 k hk
        rw [less_irrefl] at this
        cases this
      · exact h1
theorem RV.Good.keys {t : RV} (h : t.Good) : KeysUp t.keys ∧ t.keys.length = t.vals.length ∧ RV.GoodL t.vals ∧ ∀ k ∈ t.keys, Lib.validD k.data.toList = true := by
  obtain ⟨k, h', s, l, ks, vs⟩ := t
  unfold RV.Good at h
  exact ⟨h.2.2.2.2.2.2.2.2.2.2.2.2.2.1, h.2.2.2.2.2.2.1, h.2.2.2.2.2.2.2.2.2.2.2.2.2.2, h.2.2.2.2.2.2.2.2.2.2.2.2.1⟩
theorem RV.AtR.mem {t : RV} {key : ByteArray} {y : RV} (h : t.AtR key y) : key ∈ t.keys := by
  obtain ⟨i, h1, _, rfl, _⟩ := h
  exact List.getElem_mem h1
theorem RV.AtR.of_mem {t : RV} (hg : t.Good) {key : ByteArray} (h : key ∈ t.keys) : ∃ y, t.AtR key y := by
  obtain ⟨i, h1, rfl⟩ := List.getElem_of_mem h
  exact ⟨t.vals[i]'(by rw [← hg.keys.2.1]; exact h1), i, h1, by rw [← hg.keys.2.1]; exact h1, rfl, rfl⟩
theorem RV.AtR.one {t : RV} (hg : t.Good) {key : ByteArray} {y y' : RV} (h : t.AtR key y) (h' : t.AtR key y') : y = y' := by
  obtain ⟨i, h1, h2, rfl, rfl⟩ := h
  obtain ⟨j, h3, h4, e, rfl⟩ := h'
  have : i = j := by
    rcases Nat.lt_trichotomy i j with hh | hh | hh
    · exact absurd e.symm (hg.keys.1.ne h1 h3 hh)
    · exact hh
    · exact absurd e (hg.keys.1.ne h3 h1 hh)
  subst this
  rfl
theorem RV.AtR.good {t : RV} (hg : t.Good) {key : ByteArray} {y : RV} (h : t.AtR key y) : y.Good := by
  obtain ⟨i, _, h2, _, rfl⟩ := h
  exact hg.keys.2.2.1.get i h2
/-- It is one tree. -/
theorem MergeN.det : ∀ {n m : Nat} {a b c c' : RV}, a.Good → b.Good → MergeN n a b c → MergeN m a b c' → c = c'
  | 0, _, _, _, _, _, _, _, h, _ => h.elim
  | _ + 1, 0, _, _, _, _, _, _, _, h => h.elim
  | n + 1, m + 1, a, b, c, c', ha, hb, h, h' => by
    obtain ⟨ks, zs, rfl, hu, hl, hm, hv⟩ := h
    obtain ⟨ks', zs', rfl, hu', hl', hm', hv'⟩ := h'
    have e := keys_ext hu.pairwise hu'.pairwise fun k => (hm k).trans (hm' k).symm
    subst e
    have ez : zs = zs' := by
      refine List.ext_getElem (by omega) fun i hi hi' => ?_
      have hk : i < ks.length := by omega
      obtain ⟨h1, h2⟩ := hv i hk hi
      obtain ⟨h1', h2'⟩ := hv' i hk hi'
      by_cases hkb : ks[i] ∈ b.keys
      · obtain ⟨y, hy⟩ := RV.AtR.of_mem hb hkb
        by_cases hka : ks[i] ∈ a.keys
        · obtain ⟨x, hx⟩ := RV.AtR.of_mem ha hka
          obtain ⟨g1, g2⟩ := (h1 y hy).1 x hx
          obtain ⟨g1', g2'⟩ := (h1' y hy).1 x hx
          by_cases hc : x.kd = 6 ∧ y.kd = 6
          · exact MergeN.det (hx.good ha) (hy.good hb) (g1 hc) (g1' hc)
          · rw [g2 hc, g2' hc]
        · rw [(h1 y hy).2 hka, (h1' y hy).2 hka]
      · have hka : ks[i] ∈ a.keys := ((hm _).1 (List.getElem_mem hk)).resolve_right hkb
        obtain ⟨x, hx⟩ := RV.AtR.of_mem ha hka
        rw [h2 hkb x hx, h2' hkb x hx]
    rw [ez]

theorem sum_zero : ∀ {l : List Nat}, (∀ n ∈ l, n = 0) → l.sum = 0
  | [], _ => rfl
  | x :: l, h => by rw [List.sum_cons, h x (by simp), sum_zero fun n hn => h n (List.mem_cons_of_mem _ hn)]
theorem le_sum : ∀ {l : List Nat} {x : Nat}, x ∈ l → x ≤ l.sum
  | y :: l, x, h => by
    rw [List.sum_cons]
    rcases List.mem_cons.1 h with rfl | h
    · omega
    · have := le_sum h; omega
theorem goodL_of : ∀ {l : List RV}, (∀ i (h : i < l.length), l[i].Good) → RV.GoodL l
  | [], _ => by unfold RV.GoodL; trivial
  | x :: l, h => by
    unfold RV.GoodL
    exact ⟨h 0 (by simp), goodL_of fun i hi => h (i + 1) (by simpa using hi)⟩
section
open Classical
/-- Weights of the pairs at a key. -/
noncomputable def atW (L : List (ByteArray × RV)) (f : ByteArray × RV → Nat) (k : ByteArray) : Nat := ((L.filter (fun p => p.1 = k)).map f).sum
theorem one_key (c : Nat) (x : ByteArray) : ∀ ks : List ByteArray, ks.Nodup → (ks.map fun k => if x = k then c else 0).sum ≤ c
  | [], _ => Nat.zero_le _
  | k :: ks, h => by
    obtain ⟨h1, h2⟩ := List.nodup_cons.1 h
    have ih := one_key c x ks h2
    simp only [List.map_cons, List.sum_cons]
    by_cases hx : x = k
    · subst hx
      have : (ks.map fun k => if x = k then c else 0).sum = 0 := by
        refine sum_zero ?_
        intro n hn
        obtain ⟨k, hk, rfl⟩ := List.mem_map.1 hn
        rw [if_neg (fun e : x = k => h1 (by rw [e]; exact hk))]
      rw [this, if_pos rfl, Nat.add_zero]
      exact Nat.le_refl _
    · rw [if_neg hx, Nat.zero_add]
      exact ih
theorem sum_cover (ks : List ByteArray) (hn : ks.Nodup) (f : ByteArray × RV → Nat) : ∀ L : List (ByteArray × RV), (ks.map (atW L f)).sum ≤ (L.map f).sum
  | [] => by
    have : (ks.map (atW [] f)).sum = 0 := by
      refine sum_zero ?_
      intro n h
      obtain ⟨k, _, rfl⟩ := List.mem_map.1 h
      rfl
    rw [this]; exact Nat.zero_le _
  | p :: L => by
    have ih := sum_cover ks hn f L
    have h1 := one_key (f p) p.1 ks hn
    have e : ∀ k, atW (p :: L) f k = (if p.1 = k then f p else 0) + atW L f k := fun k => by
      unfold atW
      rw [List.filter_cons]
      by_cases hk : p.1 = k
      · simp [hk]
      · simp [hk]
    have e2 : (ks.map (atW (p :: L) f)).sum = (ks.map fun k => if p.1 = k then f p else 0).sum + (ks.map (atW L f)).sum := by
      rw [List.map_congr_left (fun k _ => e k)]
      clear ih h1 hn
      induction ks with
      | nil => rfl
      | cons k ks ih => simp only [List.map_cons, List.sum_cons, ih]; omega
    rw [e2, List.map_cons, List.sum_cons]
    omega
theorem atW_ge {L : List (ByteArray × RV)} {f : ByteArray × RV → Nat} {p : ByteArray × RV} (h : p ∈ L) : f p ≤ atW L f p.1 := by
  unfold atW
  have h1 : f p ∈ ((L.filter (fun q => q.1 = p.1)).map f) := List.mem_map.2 ⟨p, List.mem_filter.2 ⟨h, by simp⟩, rfl⟩
  exact le_sum h1
theorem zip_nodes : ∀ (ks : List ByteArray) (vs : List RV), ks.length = vs.length → ((ks.zip vs).map fun p => p.2.nodes).sum = RV.nodesL vs
  | [], [], _ => rfl
  | k :: ks, v :: vs, h => by
    simp only [List.zip_cons_cons, List.map_cons, List.sum_cons, RV.nodesL]
    rw [zip_nodes ks vs (by simpa using h)]
theorem zip_bytes : ∀ (ks : List ByteArray) (vs : List RV), ks.length = vs.length → ((ks.zip vs).map fun p => p.1.size + p.2.bytes).sum = keysSize ks + RV.bytesL vs
  | [], [], _ => rfl
  | k :: ks, v :: vs, h => by
    simp only [List.zip_cons_cons, List.map_cons, List.sum_cons, RV.bytesL, keysSize]
    rw [zip_bytes ks vs (by simpa using h)]
    omega
theorem zip_le (f : ByteArray × RV → Nat) (F : ByteArray → Nat) : ∀ (ks : List ByteArray) (zs : List RV), ks.length = zs.length → (∀ i (h : i < ks.length) (h' : i < zs.length), f (ks[i], zs[i]) ≤ F ks[i]) → ((ks.zip zs).map f).sum ≤ (ks.map F).sum
  | [], [], _, _ => Nat.le_refl _
  | k :: ks, z :: zs, h, hf => by
    simp only [List.zip_cons_cons, List.map_cons, List.sum_cons]
    have h0 := hf 0 (by simp) (by simp)
    have ih := zip_le f F ks zs (by simpa using h) fun i h1 h2 => hf (i + 1) (by simpa using h1) (by simpa using h2)
    simp only [List.getElem_cons_zero] at h0
    omega
theorem map_add (F G : ByteArray → Nat) : ∀ ks : List ByteArray, (ks.map fun k => F k + G k).sum = (ks.map F).sum + (ks.map G).sum
  | [] => rfl
  | k :: ks => by simp only [List.map_cons, List.sum_cons, map_add F G ks]; omega
theorem RV.AtR.zip {t : RV} {key : ByteArray} {y : RV} (h : t.AtR key y) : (key, y) ∈ t.keys.zip t.vals := by
  obtain ⟨i, h1, h2, rfl, rfl⟩ := h
  rw [List.mem_iff_getElem]
  exact ⟨i, by simp; omega, by simp⟩
theorem RV.nodes_map (t : RV) : 1 + RV.nodesL t.vals ≤ t.nodes := by
  obtain ⟨k, h, s, l, ks, vs⟩ := t
  show 1 + RV.nodesL vs ≤ _
  unfold RV.nodes
  omega
theorem RV.bytes_map (t : RV) : keysSize t.keys + RV.bytesL t.vals ≤ t.bytes := by
  obtain ⟨k, h, s, l, ks, vs⟩ := t
  show keysSize ks + RV.bytesL vs ≤ _
  unfold RV.bytes
  omega
/-- A right value, no greater than both. -/
theorem MergeN.right : ∀ {n : Nat} {a b c : RV}, a.Good → b.Good → MergeN n a b c → c.Good ∧ c.nodes ≤ a.nodes + b.nodes ∧ c.bytes ≤ a.bytes + b.bytes
  | 0, _, _, _, _, _, h => h.elim
  | n + 1, a, b, c, ha, hb, h => by
    obtain ⟨ks, zs, rfl, hu, hl, hm, hv⟩ := h
    have key : ∀ i (h : i < ks.length) (h' : i < zs.length), zs[i].Good ∧ zs[i].nodes ≤ atW (a.keys.zip a.vals) (fun p => p.2.nodes) ks[i] + atW (b.keys.zip b.vals) (fun p => p.2.nodes) ks[i] ∧
        ks[i].size + zs[i].bytes ≤ atW (a.keys.zip a.vals) (fun p => p.1.size + p.2.bytes) ks[i] + atW (b.keys.zip b.vals) (fun p => p.1.size + p.2.bytes) ks[i] := fun i hk hi => by
      obtain ⟨h1, h2⟩ := hv i hk hi
      by_cases hkb : ks[i] ∈ b.keys
      · obtain ⟨y, hy⟩ := RV.AtR.of_mem hb hkb
        have y1 := atW_ge (f := fun p => p.2.nodes) hy.zip
        have y2 := atW_ge (f := fun p => p.1.size + p.2.bytes) hy.zip
        simp only at y1 y2
        by_cases hka : ks[i] ∈ a.keys
        · obtain ⟨x, hx⟩ := RV.AtR.of_mem ha hka
          have x1 := atW_ge (f := fun p => p.2.nodes) hx.zip
          have x2 := atW_ge (f := fun p => p.1.size + p.2.bytes) hx.zip
          simp only at x1 x2
          obtain ⟨g1, g2⟩ := (h1 y hy).1 x hx
          by_cases hc : x.kd = 6 ∧ y.kd = 6
          · obtain ⟨r1, r2, r3⟩ := MergeN.right (hx.good ha) (hy.good hb) (g1 hc)
            exact ⟨r1, by omega, by omega⟩
          · rw [g2 hc]
            exact ⟨hy.good hb, by omega, by omega⟩
        · rw [(h1 y hy).2 hka]
          exact ⟨hy.good hb, by omega, by omega⟩
      · have hka : ks[i] ∈ a.keys := ((hm _).1 (List.getElem_mem hk)).resolve_right hkb
        obtain ⟨x, hx⟩ := RV.AtR.of_mem ha hka
        have x1 := atW_ge (f := fun p => p.2.nodes) hx.zip
        have x2 := atW_ge (f := fun p => p.1.size + p.2.bytes) hx.zip
        simp only at x1 x2
        rw [h2 hkb x hx]
        exact ⟨hx.good ha, by omega, by omega⟩
    have hz : RV.GoodL zs := goodL_of fun i hi => (key i (by omega) hi).1
    refine ⟨?_, ?_, ?_⟩
    · unfold RV.Good
      refine ⟨by decide, by decide, .inr rfl, .inr rfl, .inr rfl, .inl rfl, hl, by decide, by decide, .inl rfl, by decide, by unfold RV.GoodL; trivial, ?_, hu, hz⟩
      intro k hk
      rcases (hm k).1 hk with h | h
      · exact ha.keys.2.2.2 k h
      · exact hb.keys.2.2.2 k h
    · have s1 := zip_le (fun p => p.2.nodes) (fun k => atW (a.keys.zip a.vals) (fun p => p.2.nodes) k + atW (b.keys.zip b.vals) (fun p => p.2.nodes) k) ks zs hl fun i h h' => (key i h h').2.1
      rw [zip_nodes ks zs hl, map_add] at s1
      have s2 := sum_cover ks hu.nodup (fun p => p.2.nodes) (a.keys.zip a.vals)
      have s3 := sum_cover ks hu.nodup (fun p => p.2.nodes) (b.keys.zip b.vals)
      rw [zip_nodes _ _ ha.keys.2.1] at s2
      rw [zip_nodes _ _ hb.keys.2.1] at s3
      have := a.nodes_map
      have := b.nodes_map
      have e1 : (RV.mk 6 0 ByteArray.empty [] ks zs).nodes = 1 + RV.nodesL [] + RV.nodesL zs := by rw [RV.nodes]
      have e2 : RV.nodesL [] = 0 := by rw [RV.nodesL]
      rw [e1, e2]
      omega
    · have s1 := zip_le (fun p => p.1.size + p.2.bytes) (fun k => atW (a.keys.zip a.vals) (fun p => p.1.size + p.2.bytes) k + atW (b.keys.zip b.vals) (fun p => p.1.size + p.2.bytes) k) ks zs hl fun i h h' => (key i h h').2.2
      rw [zip_bytes ks zs hl, map_add] at s1
      have s2 := sum_cover ks hu.nodup (fun p => p.1.size + p.2.bytes) (a.keys.zip a.vals)
      have s3 := sum_cover ks hu.nodup (fun p => p.1.size + p.2.bytes) (b.keys.zip b.vals)
      rw [zip_bytes _ _ ha.keys.2.1] at s2
      rw [zip_bytes _ _ hb.keys.2.1] at s3
      have := a.bytes_map
      have := b.bytes_map
      have e0 : ByteArray.empty.size = 0 := rfl
      have e1 : (RV.mk 6 0 ByteArray.empty [] ks zs).bytes = ByteArray.empty.size + RV.bytesL [] + keysSize ks + RV.bytesL zs := by rw [RV.bytes]
      have e2 : RV.bytesL [] = 0 := by rw [RV.bytesL]
      rw [e1, e2, e0]
      omega
end
end Go.Proofs.YtjpcdbopioblaaaDoor
