/- Products of objects: what the map holds while the second one's entries are laid in. No walk. -/
import Derived.Test.YtjpcdbopioblaaaDoorMergePlain
import Derived.Test.YtjpcdbopioblaaaDoorGoSet
import Derived.Test.YtjpcdbopioblaaaDoorSortedKeys
import Derived.Maps.RangeWalk
import Derived.Maps.Ext
import Derived.Lib.SlMapMerge
import Derived.Sort.MapsRangeIn
namespace Go.Proofs.YtjpcdbopioblaaaDoor
open Go.RowKit Go.WideMaps Go.Maps

/-- A key as the map's datum has it. -/
def kS (key : ByteArray) : Lit := .string key.data.toList
theorem kS_inj {a b : ByteArray} (h : kS a = kS b) : a = b := by
  unfold kS at h
  injection h with h
  exact ByteArray.ext (Array.ext' h)
theorem kS_key (key : ByteArray) : WideAt.IsKeyLit (kS key) := trivial
theorem has_mapD {ks : List ByteArray} {xs : List Value} (hl : xs.length = ks.length) (k : Lit) : Maps.has (mapD ks xs) k = true ↔ ∃ key ∈ ks, k = kS key := by
  unfold mapD
  rw [Maps.has_eq, List.any_eq_true]
  constructor
  · rintro ⟨p, hp, hs⟩
    obtain ⟨q, hq, rfl⟩ := List.mem_map.1 hp
    refine ⟨q.1, (List.of_mem_zip hq).1, ?_⟩
    by_cases e : k = kS q.1
    · exact e
    · have := Maps.sameKey_ne (a := (Lit.string q.1.data.toList)) (b := k) (fun e2 => e e2.symm)
      rw [this] at hs
      cases hs
  · rintro ⟨key, hk, rfl⟩
    obtain ⟨i, hi, rfl⟩ := List.getElem_of_mem hk
    refine ⟨(.string ks[i].data.toList, .held (xs[i]'(by omega))), List.mem_map.2 ⟨(ks[i], xs[i]'(by omega)), ?_, rfl⟩, WideAt.sameKey_self (kS_key ks[i])⟩
    rw [List.mem_iff_getElem]
    exact ⟨i, by simp; omega, by simp⟩
theorem has_mapD_key {ks : List ByteArray} {xs : List Value} (hl : xs.length = ks.length) (key : ByteArray) : Maps.has (mapD ks xs) (kS key) = true ↔ key ∈ ks := by
  rw [has_mapD hl]
  constructor
  · rintro ⟨k, hk, e⟩; rw [kS_inj e]; exact hk
  · intro h; exact ⟨key, h, rfl⟩

/-- What stands at a key of both maps, or of the second one alone. -/
def Zb (N : Nat) (a b : RV) (key : ByteArray) (z : RV) : Prop := ∀ y, b.AtR key y → (∀ x, a.AtR key x → (x.kd = 6 ∧ y.kd = 6 → MergeN N x y z) ∧ (¬ (x.kd = 6 ∧ y.kd = 6) → z = y)) ∧ (key ∉ a.keys → z = y)
theorem list_choose {α : Type} : ∀ (n : Nat) (P : Nat → α → Prop), (∀ i, i < n → ∃ z, P i z) → ∃ zs : List α, zs.length = n ∧ ∀ i (h : i < zs.length), P i zs[i]
  | 0, _, _ => ⟨[], rfl, fun i h => absurd h (by simp)⟩
  | n + 1, P, h => by
    obtain ⟨z, hz⟩ := h 0 (by omega)
    obtain ⟨zs, hl, hp⟩ := list_choose n (fun i z => P (i + 1) z) fun i hi => h (i + 1) (by omega)
    refine ⟨z :: zs, by simp [hl], fun i hi => ?_⟩
    cases i with
    | zero => exact hz
    | succ i => exact hp i (by simpa using hi)
/-- While the second map's entries are laid in: those not 'left'. -/
structure MJ (N : Nat) (a b : RV) (xa xb : List Value) (T : Nat → Prop) (wr : World) (Dm : DataW Value) (left : Lit → Bool) : Prop where
  has : ∀ k, Maps.has Dm k = (Maps.has (mapD a.keys xa) k || (Maps.has (mapD b.keys xb) k && !left k))
  new : ∀ key, key ∈ b.keys → left (kS key) = false → ∃ v z, (∀ zd, Dm.atKey (kS key) zd = .held v) ∧ z.GoS wr T v ∧ Zb N a b key z
  old : ∀ key, key ∈ a.keys → ¬ (key ∈ b.keys ∧ left (kS key) = false) → ∀ zd, Dm.atKey (kS key) zd = (mapD a.keys xa).atKey (kS key) zd
theorem MJ.start {N : Nat} {a b : RV} {xa xb : List Value} {T : Nat → Prop} {wr : World} (hb : xb.length = b.keys.length) : MJ N a b xa xb T wr (mapD a.keys xa) (Maps.has (mapD b.keys xb)) :=
  ⟨fun k => by cases Maps.has (mapD a.keys xa) k <;> cases Maps.has (mapD b.keys xb) k <;> rfl, (fun key hk hl => by
    have := (has_mapD_key hb key).2 hk
    rw [this] at hl
    exact absurd hl (by decide)), fun key _ _ zd => rfl⟩
theorem MJ.kept {N : Nat} {a b : RV} {xa xb : List Value} {T : Nat → Prop} {wr w' : World} {Dm : DataW Value} {left : Lit → Bool} (h : MJ N a b xa xb T wr Dm left) (hs : SameOn T wr w') : MJ N a b xa xb T w' Dm left :=
  ⟨h.has, fun key hk hl => by
    obtain ⟨v, z, h1, h2, h3⟩ := h.new key hk hl
    exact ⟨v, z, h1, h2.keep hs (fun _ h _ => h), h3⟩, h.old⟩
theorem MJ.step {N : Nat} {a b : RV} {xa xb : List Value} {T : Nat → Prop} {wr : World} {Dm : DataW Value} {left : Lit → Bool} {key : ByteArray} {v : Value} {z : RV} (hb : xb.length = b.keys.length) (h : MJ N a b xa xb T wr Dm left) (hm : Maps.IsMap Dm) (hk : key ∈ b.keys) (hz : z.GoS wr T v) (hZ : Zb N a b key z) :
    MJ N a b xa xb T wr (Dm.put (kS key) (.held v)) (fun q => left q && !q.sameKey (kS key)) := by
  have hbk := (has_mapD_key hb key).2 hk
  refine ⟨fun k => ?_, fun key' hk' hl' => ?_, fun key' hk' hn zd => ?_⟩
  · by_cases e : k = kS key
    · subst e
      rw [Maps.has_put_same hm (kS_key key), hbk, WideAt.sameKey_self (kS_key key)]
      simp
    · rw [Maps.has_put_other e, h.has k, Maps.sameKey_ne e]
      simp
  · by_cases e : key' = key
    · subst e
      exact ⟨v, z, fun zd => Maps.atKey_put_same hm (kS_key key') _ _, hz, hZ⟩
    · have e2 : kS key' ≠ kS key := fun x => e (kS_inj x)
      simp only [Maps.sameKey_ne e2, Bool.not_false, Bool.and_true] at hl'
      obtain ⟨v', z', h1, h2, h3⟩ := h.new key' hk' hl'
      exact ⟨v', z', fun zd => by rw [Maps.atKey_put_other e2]; exact h1 zd, h2, h3⟩
  · by_cases e : key' = key
    · subst e
      exact absurd ⟨hk, by simp [WideAt.sameKey_self (kS_key key')]⟩ hn
    · have e2 : kS key' ≠ kS key := fun x => e (kS_inj x)
      simp only [Maps.sameKey_ne e2, Bool.not_false, Bool.and_true] at hn
      rw [Maps.atKey_put_other e2]
      exact h.old key' hk' hn zd
theorem mapD_list : ∀ es : List (Lit × DataW Value), es.Pairwise (fun p q => p.1.before q.1 = true) → (∀ p ∈ es, ∃ key x, p = (kS key, .held x)) → ∃ ks xs, DataW.map es = mapD ks xs ∧ KeysUp ks ∧ xs.length = ks.length
  | [], _, _ => ⟨[], [], rfl, fun i hi => absurd hi (by simp), rfl⟩
  | p :: es, hp, he => by
    obtain ⟨hp1, hp2⟩ := List.pairwise_cons.1 hp
    obtain ⟨ks, xs, e, hu, hl⟩ := mapD_list es hp2 fun q hq => he q (List.mem_cons_of_mem _ hq)
    obtain ⟨key, x, rfl⟩ := he p (by simp)
    unfold mapD at e
    injection e with e
    refine ⟨key :: ks, x :: xs, by unfold mapD; rw [e]; rfl, fun i hi => ?_, by simp [hl]⟩
    cases i with
    | zero =>
      have hi0 : 0 < ks.length := by simp at hi; omega
      have h1 := hp1 (kS ks[0], .held (xs[0]'(by omega))) (by rw [e]; refine List.mem_map.2 ⟨(ks[0], xs[0]'(by omega)), ?_, rfl⟩; rw [List.mem_iff_getElem]; exact ⟨0, by simp; omega, by simp⟩)
      have h2 : bytesBefore key.data.toList ks[0].data.toList = true := h1
      rw [before_eq] at h2
      show Op.bytesLess key.toList ks[0].toList = true
      rw [ByteArray.toList_eq, ByteArray.toList_eq]
      exact h2
    | succ i => exact hu i (by simpa using hi)
theorem keyOf_text {P : Program} {k : TypeId} (hk : P.underlying k = some .string) {key : Value} {kl : Lit} (h : keyOf P k key = some kl) : ∃ s, key = .string s ∧ kl = kS s ∧ s.size ≤ maxLen := by
  cases key <;> simp [keyOf, hk, mapKey] at h
  exact ⟨_, rfl, h.2.symm, h.1⟩
theorem heldR_inv {v : Value} {y : DataW Value × List MemPlace} (h : heldR v = some y) : y.1 = .held v := by
  unfold heldR at h
  injection h with h
  rw [← h]
/-- A map of texts, by its keys and its elements. -/
theorem mapD_of {w : World} {r n : Nat} {D : DataW Value} (h : w.ownsMap Tryd.prog 9 heldR r n D) : ∃ ks xs, D = mapD ks xs ∧ KeysUp ks ∧ xs.length = ks.length := by
  have hc := h.canon (string_keyed Tryd.underlying9)
  obtain ⟨es0, clock, _, F, _, hD⟩ := h
  obtain ⟨es, e, hp, _⟩ := hc
  rw [e]
  refine mapD_list es hp fun p hp => ?_
  rw [hD] at e
  injection e with e
  rw [← e] at hp
  obtain ⟨x, hx, rfl⟩ := List.mem_map.1 (mem_sorted.1 hp)
  obtain ⟨y, hy⟩ := F.reads x hx
  rw [WideElems.rg_of hy]
  obtain ⟨s, hs0, hs, hs1⟩ := keyOf_text Tryd.underlying9 (WideElems.rd_key hy)
  have hv : ∃ v, y.2 = .held v := by
    unfold WideElems.rd at hy
    simp only [Option.bind_eq_some_iff, Option.map_eq_some_iff] at hy
    obtain ⟨q1, _, d, hd, hyd⟩ := hy
    exact ⟨x.val, by rw [← hyd]; exact heldR_inv hd⟩
  obtain ⟨v, hv⟩ := hv
  exact ⟨s, v, Prod.ext hs hv⟩
/-- All laid in: the product. -/
theorem MJ.done {N : Nat} {a b : RV} {xa xb : List Value} {T : Nat → Prop} {wr : World} {r n : Nat} {Dm : DataW Value} {left : Lit → Bool} (ha : a.Good) (hxa : xa.length = a.keys.length) (hxb : xb.length = b.keys.length) (hga : RV.GoSV wr T xa a.vals) (h : MJ N a b xa xb T wr Dm left) (hl : ∀ k, left k = false)
    (hm : wr.ownsMap Tryd.prog 9 heldR r n Dm) {T' : Nat → Prop} (hT : ∀ k, T k → T' k) (hr : T' r) (hn : n ≤ 1000000) : ∃ c, MergeN (N + 1) a b c ∧ c.kd = 6 ∧ c.GoS wr T' (.iface 94 (.map (some r))) := by
  obtain ⟨ks, xs, rfl, hu, hlx⟩ := mapD_of hm
  have hmem : ∀ key, key ∈ ks ↔ key ∈ a.keys ∨ key ∈ b.keys := fun key => by
    rw [← has_mapD_key hlx, h.has, hl, ← has_mapD_key hxa, ← has_mapD_key hxb]
    simp
  have hel : ∀ i (hi : i < ks.length), ∃ z : RV, z.GoS wr T (xs[i]'(by omega)) ∧ (ks[i] ∈ b.keys → Zb N a b ks[i] z) ∧ (ks[i] ∉ b.keys → ∀ x, a.AtR ks[i] x → z = x) := fun i hi => by
    have hat := mapD_get ks xs hlx hu i hi (by omega) .nil
    by_cases hkb : ks[i] ∈ b.keys
    · obtain ⟨v, z, h1, h2, h3⟩ := h.new ks[i] hkb (hl _)
      have h1' := h1 .nil
      unfold kS at h1'
      rw [hat] at h1'
      injection h1' with h1'
      subst h1'
      exact ⟨z, h2, fun _ => h3, fun h => absurd hkb h⟩
    · have hka : ks[i] ∈ a.keys := ((hmem _).1 (List.getElem_mem hi)).resolve_right hkb
      obtain ⟨j, hj, hje⟩ := List.getElem_of_mem hka
      have h1 := h.old ks[i] hka (fun x => hkb x.1) .nil
      have h2 := mapD_get a.keys xa hxa ha.keys.1 j hj (by omega) .nil
      unfold kS at h1
      rw [hat, ← hje, h2] at h1
      injection h1 with h1
      have hjv : j < a.vals.length := by rw [← ha.keys.2.1]; exact hj
      refine ⟨a.vals[j], by rw [h1]; exact hga.get j hjv (by omega), fun h => absurd h hkb, fun _ x hx => RV.AtR.one ha ⟨j, hj, hjv, hje, rfl⟩ hx⟩
  have hP : ∀ i, i < ks.length → ∃ z : RV, ∀ (hi : i < ks.length) (hx : i < xs.length), z.GoS wr T xs[i] ∧ (ks[i] ∈ b.keys → Zb N a b ks[i] z) ∧ (ks[i] ∉ b.keys → ∀ x, a.AtR ks[i] x → z = x) := fun i hi => by
    obtain ⟨z, hz⟩ := hel i hi
    exact ⟨z, fun _ _ => hz⟩
  obtain ⟨zs, hzl, hz⟩ := list_choose ks.length _ hP
  refine ⟨.mk 6 0 ByteArray.empty [] ks zs, ⟨ks, zs, rfl, hu, hzl.symm, hmem, fun i hk hi => ⟨fun y hy => (hz i hi hk (by omega)).2.1 hy.mem y hy, (hz i hi hk (by omega)).2.2⟩⟩, rfl, ?_⟩
  unfold RV.GoS
  refine .inr (.inr (.inr (.inr (.inr (.inr ⟨rfl, r, n, xs, rfl, hr, hn, hm, hlx, ?_⟩)))))
  exact RV.GoSV.of zs xs (by omega) fun j hj hj' => (hz j hj (by omega) hj').1.keep (fun _ _ _ => rfl) (fun k h _ => hT k h)
end Go.Proofs.YtjpcdbopioblaaaDoor
