/- Texts of this proof laid together by a program: EncAny, EncObj, EncAll, JsonStr, HtmlImpl, HtmlSpec, HtmlFormat, HtmlLaw. -/
import Derived.Test.YtjpcdbopioblaaaGreatDoorMh4
import Derived.Test.YtjpcdbopioblaaaGreatDoorMh5
import Derived.Test.YtjpcdbopioblaaaGreatDoorMh7
import Derived.Test.YtjpcdbopioblaaaGreatDoorMh8
import Derived.Test.YtjpcdbopioblaaaGreatDoorMh9
import Derived.Test.YtjpcdbopioblaaaGreatDoorMh10
import Derived.Test.YtjpcdbopioblaaaGreatDoorMh11
import Derived.Deep.RegionHeld3
import Derived.Deep.RegionWith
/- encode's arms, for whatever writer. -/
namespace Go.Proofs.YtjpcdbopioblaaaGreatDoor
open Go.RowKit

def nullT : ByteArray := ⟨#[110, 117, 108, 108]⟩
set_option maxRecDepth 100000 in
set_option maxHeartbeats 1600000 in
theorem encode_null {K : Wr} (hKs : K.Strs) (B b eb : Nat) (l0 : List UInt8) (w : World) (hS : EncS K B b eb l0 w) (hlen : l0.length + 40 ≤ 140737488355000) :
    Calls Tryz.prog 77 #[.pointer (some ⟨eb, 0, none⟩), .nilIface] w (EncPost K B b eb (l0 ++ [110, 117, 108, 108]) w) := by
  have HS := Lib.hid hS
  have hc0 := hS.iface
  clear hS
  have hms := hKs.meth
  have hens := hKs.enter
  unfold EncPost
  go_enter Tryz.func77, Tryz.ntmps77
  go_wp2_with fail
  refine (hKs.write B b l0 ⟨#[110, 117, 108, 108]⟩ _ HS.out.bld (by show _ + 4 ≤ _; omega) HS.out.size).mono ?_
  rintro e w3 ⟨rfl, hw3⟩
  have HW3 := Lib.hid hw3
  clear hw3 hc0
  go_wp2_with fail
  go_end0
  exact ⟨rfl, HS.out.wrote HW3.out, HW3.out.2.1, EKept.of_others HW3.out.2.2⟩
set_option maxRecDepth 100000 in
set_option maxHeartbeats 1600000 in
theorem encode_true {K : Wr} (hKs : K.Strs) (B b eb : Nat) (l0 : List UInt8) (w : World) (hS : EncS K B b eb l0 w) (hlen : l0.length + 40 ≤ 140737488355000) :
    Calls Tryz.prog 77 #[.pointer (some ⟨eb, 0, none⟩), .iface 4 (.bool true)] w (EncPost K B b eb (l0 ++ [116, 114, 117, 101]) w) := by
  have HS := Lib.hid hS
  have hc0 := hS.iface
  clear hS
  have hms := hKs.meth
  have ha1 := as_bool_bool (.bool true)
  have hens := hKs.enter
  unfold EncPost
  go_enter Tryz.func77, Tryz.ntmps77
  go_wp2_with fail
  refine (hKs.write B b l0 ⟨#[116, 114, 117, 101]⟩ _ HS.out.bld (by show _ + 4 ≤ _; omega) HS.out.size).mono ?_
  rintro e w3 ⟨rfl, hw3⟩
  have HW3 := Lib.hid hw3
  clear hw3 hc0
  go_wp2_with fail
  go_end0
  exact ⟨rfl, HS.out.wrote HW3.out, HW3.out.2.1, EKept.of_others HW3.out.2.2⟩
set_option maxRecDepth 100000 in
set_option maxHeartbeats 1600000 in
theorem encode_false {K : Wr} (hKs : K.Strs) (B b eb : Nat) (l0 : List UInt8) (w : World) (hS : EncS K B b eb l0 w) (hlen : l0.length + 40 ≤ 140737488355000) :
    Calls Tryz.prog 77 #[.pointer (some ⟨eb, 0, none⟩), .iface 4 (.bool false)] w (EncPost K B b eb (l0 ++ [102, 97, 108, 115, 101]) w) := by
  have HS := Lib.hid hS
  have hc0 := hS.iface
  clear hS
  have hms := hKs.meth
  have ha1 := as_bool_bool (.bool false)
  have hens := hKs.enter
  unfold EncPost
  go_enter Tryz.func77, Tryz.ntmps77
  go_wp2_with fail
  refine (hKs.write B b l0 ⟨#[102, 97, 108, 115, 101]⟩ _ HS.out.bld (by show _ + 5 ≤ _; omega) HS.out.size).mono ?_
  rintro e w3 ⟨rfl, hw3⟩
  have HW3 := Lib.hid hw3
  clear hw3 hc0
  go_wp2_with fail
  go_end0
  exact ⟨rfl, HS.out.wrote HW3.out, HW3.out.2.1, EKept.of_others HW3.out.2.2⟩
set_option maxRecDepth 100000 in
set_option maxHeartbeats 1600000 in
/-- An arm that hands its value on: strings, arrays, objects, floats. -/
theorem encode_str {K : Wr} (hKp : K.Keeps) (hKb : K.Bytes) (hKs : K.Strs) (s : ByteArray) (B b eb : Nat) (l0 : List UInt8) (w : World) (hv : Lib.validD s.data.toList = true) (hS : EncS K B b eb l0 w) (hT : ∀ W, Below B w W → Tabs W) (hlen : l0.length + 6 * s.size + 2 ≤ 140737488355328) :
    Calls Tryz.prog 77 #[.pointer (some ⟨eb, 0, none⟩), .iface 9 (.string s)] w (EncPost K B b eb (l0 ++ strT s) w) := by
  have H := Lib.hid (encodeString_any hKp hKb hKs s B b eb l0 w hv hS hT hlen)
  have e : l0 ++ strT s = l0 ++ 34 :: s.data.toList.flatMap encB ++ [34] := by unfold strT; simp
  rw [e]
  unfold EncPost
  clear hS hT hv hlen e
  have q1 := as_str_bool (.string s)
  have q2 := as_str_int (.string s)
  have q3 := as_str_float (.string s)
  have q4 := as_str_big (.string s)
  have q5 := as_str_num (.string s)
  have q6 := as_str_str (.string s)
  go_enter Tryz.func77, Tryz.ntmps77
  go_wp2_with fail
  refine H.out.mono ?_
  rintro e w3 ⟨rfl, h1, h2, h3⟩
  have H3 := Lib.hid (And.intro h1 (And.intro h2 h3))
  clear h1 h2 h3
  go_wp2_with fail
  go_end0
  exact ⟨rfl, H3.out.1, H3.out.2.1, H3.out.2.2⟩
set_option maxRecDepth 100000 in
set_option maxHeartbeats 1600000 in
theorem encode_list {K : Wr} (B b eb : Nat) (l0 tx : List UInt8) (a : Option Addr) (m cap : Nat) (w : World) (h : Calls Tryz.prog 132 #[.pointer (some ⟨eb, 0, none⟩), .slice a m cap] w (EncPost K B b eb (l0 ++ tx) w)) :
    Calls Tryz.prog 77 #[.pointer (some ⟨eb, 0, none⟩), .iface 87 (.slice a m cap)] w (EncPost K B b eb (l0 ++ tx) w) := by
  have H := Lib.hid h
  clear h
  unfold EncPost
  have q1 := as_list_bool (.slice a m cap)
  have q2 := as_list_int (.slice a m cap)
  have q3 := as_list_float (.slice a m cap)
  have q4 := as_list_big (.slice a m cap)
  have q5 := as_list_num (.slice a m cap)
  have q6 := as_list_str (.slice a m cap)
  have q7 := as_list_list (.slice a m cap)
  go_enter Tryz.func77, Tryz.ntmps77
  go_wp2_with fail
  refine H.out.mono ?_
  rintro e w3 ⟨rfl, h1, h2, h3⟩
  have H3 := Lib.hid (And.intro h1 (And.intro h2 h3))
  clear h1 h2 h3
  go_wp2_with fail
  go_end0
  exact ⟨rfl, H3.out.1, H3.out.2.1, H3.out.2.2⟩
set_option maxRecDepth 100000 in
set_option maxHeartbeats 1600000 in
theorem encode_map {K : Wr} (B b eb : Nat) (l0 tx : List UInt8) (r : Option Nat) (w : World) (h : Calls Tryz.prog 133 #[.pointer (some ⟨eb, 0, none⟩), .map r] w (EncPost K B b eb (l0 ++ tx) w)) :
    Calls Tryz.prog 77 #[.pointer (some ⟨eb, 0, none⟩), .iface 90 (.map r)] w (EncPost K B b eb (l0 ++ tx) w) := by
  have H := Lib.hid h
  clear h
  unfold EncPost
  have q1 := as_map_bool (.map r)
  have q2 := as_map_int (.map r)
  have q3 := as_map_float (.map r)
  have q4 := as_map_big (.map r)
  have q5 := as_map_num (.map r)
  have q6 := as_map_str (.map r)
  have q7 := as_map_list (.map r)
  have q8 := as_map_map (.map r)
  go_enter Tryz.func77, Tryz.ntmps77
  go_wp2_with fail
  refine H.out.mono ?_
  rintro e w3 ⟨rfl, h1, h2, h3⟩
  have H3 := Lib.hid (And.intro h1 (And.intro h2 h3))
  clear h1 h2 h3
  go_wp2_with fail
  go_end0
  exact ⟨rfl, H3.out.1, H3.out.2.1, H3.out.2.2⟩
set_option maxRecDepth 100000 in
set_option maxHeartbeats 1600000 in
theorem encode_flt {K : Wr} (B b eb : Nat) (l0 tx : List UInt8) (f : Nat) (w : World) (h : Calls Tryz.prog 128 #[.pointer (some ⟨eb, 0, none⟩), .float .f64 f] w (EncPost K B b eb (l0 ++ tx) w)) :
    Calls Tryz.prog 77 #[.pointer (some ⟨eb, 0, none⟩), .iface 86 (.float .f64 f)] w (EncPost K B b eb (l0 ++ tx) w) := by
  have H := Lib.hid h
  clear h
  unfold EncPost
  have q1 := as_float_bool (.float .f64 f)
  have q2 := as_float_int (.float .f64 f)
  have q3 := as_float_float (.float .f64 f)
  go_enter Tryz.func77, Tryz.ntmps77
  go_wp2_with fail
  refine H.out.mono ?_
  rintro e w3 ⟨rfl, h1, h2, h3⟩
  have H3 := Lib.hid (And.intro h1 (And.intro h2 h3))
  clear h1 h2 h3
  go_wp2_with fail
  go_end0
  exact ⟨rfl, H3.out.1, H3.out.2.1, H3.out.2.2⟩
end Go.Proofs.YtjpcdbopioblaaaGreatDoor

/- encodeObject walked, for whatever writer. -/
namespace Go.Proofs.YtjpcdbopioblaaaGreatDoor
open Go.RowKit Go.WideMaps Go.Maps

/-- 'make([]keyVal, n)'. -/
theorem made_kv (w : World) (n : Nat) (hn : n ≤ 8796093022208) : (Instr.makeSlice 185 (.int .i64 n) (.int .i64 n)).run Tryz.prog w = .ok (.slice (some ⟨w.heap.size, 0, none⟩) n n) (w.alloc (.cells (madeCells #[.string ⟨#[]⟩, .nilIface] (n * 2)) 187)) := by
  have hinfo : (Tryz.prog.info? 187).map (fun i => (i.zero, i.size, i.bytes)) = some (some (Value.agg #[.string ⟨#[]⟩, .nilIface]), 2, 32) := by kernel_rfl
  obtain ⟨i, hi, he⟩ := Option.map_eq_some_iff.1 hinfo
  simp only [Prod.mk.injEq] at he
  have hr := run_make (P := Tryz.prog) w 185 187 i _ Tryz.underlying185 hi he.1 .i64 .i64 n n (by omega) (Int.le_refl _) (by rw [he.2.2]; omega) (by omega)
  simp only [Int.toNat_natCast, he.2.1] at hr
  exact hr
/-- The row while it is filled. -/
def KVRow (W : World) (kb n : Nat) (E : List KV) : Prop := ∃ cs : Array Value, W.heap[kb]? = some (.cells cs 187 (0, 0)) ∧ cs.size = n * 2 ∧ E.length ≤ n ∧ ∀ j (h : j < E.length), cs[j * 2]? = some (.string E[j].1) ∧ cs[j * 2 + 1]? = some E[j].2
theorem KVRow.push {W : World} {kb n : Nat} {E : List KV} (h : KVRow W kb n E) (hn : E.length < n) (key : ByteArray) (c : Value) : KVRow (W.setCells kb (E.length * 2) [.string key, c]) kb n (E ++ [(key, c)]) := by
  obtain ⟨cs, h1, h2, h3, h4⟩ := h
  obtain ⟨cs', g1, g2, g3, g4⟩ := setCells_row [.string key, c] (E.length * 2) W cs h1 (by simp; omega)
  refine ⟨cs', g1, g2.trans h2, by simp; omega, fun j hj => ?_⟩
  simp only [List.length_append, List.length_singleton] at hj
  rcases Nat.lt_or_ge j E.length with h | h
  · rw [List.getElem_append_left h, g3 _ (by omega), g3 _ (by omega)]
    exact h4 j h
  · obtain rfl : j = E.length := by omega
    rw [List.getElem_append_right (by omega)]
    have e0 := g4 0 (by simp)
    have e1 := g4 1 (by simp)
    simpa using And.intro e0 e1
theorem KVRow.cell {W : World} {kb n : Nat} {E : List KV} (h : KVRow W kb n E) {i : Nat} (hi : i < n) : ∃ u0 u1, W.cell? ⟨kb, i * 2, none⟩ = some u0 ∧ W.cell? ⟨kb, i * 2 + 1, none⟩ = some u1 ∧ W.frozen? ⟨kb, i * 2, none⟩ = false ∧ W.frozen? ⟨kb, i * 2 + 1, none⟩ = false := by
  obtain ⟨cs, h1, h2, h3, h4⟩ := h
  refine ⟨cs[i * 2]'(by omega), cs[i * 2 + 1]'(by omega), ?_, ?_, by simp [World.frozen?, h1], by simp [World.frozen?, h1]⟩
  · simp only [World.cell?, h1]
    exact Array.getElem?_eq_getElem _
  · simp only [World.cell?, h1]
    exact Array.getElem?_eq_getElem _
theorem KVRow.done {W : World} {kb n : Nat} {E : List KV} (h : KVRow W kb n E) (hn : E.length = n) (h1 : ∀ p ∈ E, p.2.oneCell' = true) : RowKV W kb E := by
  obtain ⟨cs, g1, g2, g3, g4⟩ := h
  refine ⟨⟨cs, _, g1⟩, fun t ht => ?_⟩
  rw [Sort.size_flatK] at ht
  have hs : E.toArray.size = E.length := by simp
  obtain ⟨u, v, hv, rfl⟩ : ∃ u v, v < 2 ∧ t = u * 2 + v := ⟨t / 2, t % 2, by omega, by omega⟩
  have hlt : u < E.length := by omega
  refine ⟨?_, by simp [World.frozen?, g1]⟩
  have e1 : (u * 2 + v) / 2 = u := by omega
  have e2 : (u * 2 + v) % 2 = v := by omega
  rw [Sort.get_flatK _ _ _ _ ht, e1, e2, getElem!_pos E.toArray u (by omega)]
  simp only [World.cell?, g1, Nat.zero_add, List.getElem_toArray, id]
  obtain ⟨q0, q1⟩ := g4 u hlt
  have hone := h1 E[u] (List.getElem_mem hlt)
  rcases (show v = 0 ∨ v = 1 by omega) with rfl | rfl
  · simpa [encKV] using q0
  · simpa [encKV, oneV_self hone] using q1
/-- While the map's entries are laid into the row. -/
structure KVS (w1 W : World) (ks : List ByteArray) (xs : List Value) (left : Lit → Bool) (E : List KV) : Prop where
  below : Below w1.heap.size w1 W
  lt : w1.heap.size + 2 < W.heap.size
  row : KVRow W w1.heap.size ks.length E
  box : W.cell? ⟨w1.heap.size + 1, 0, none⟩ = some (.slice (some ⟨w1.heap.size, 0, none⟩) ks.length ks.length)
  ones : ∀ p ∈ E, p.2 = .nilIface ∨ ∃ t z, p.2 = .iface t z
  inv : KVInv ks xs left E
theorem KVS.kept {w1 W W' : World} {ks : List ByteArray} {xs : List Value} {left : Lit → Bool} {E : List KV} (h : KVS w1 W ks xs left E) (hg : W.grownBy W' (some (w1.heap.size + 2))) : KVS w1 W' ks xs left E := by
  obtain ⟨cs, h1, h2⟩ := h.row
  have hl := h.lt
  refine ⟨below_gb h.below hg h.below.size (by omega), Nat.lt_of_lt_of_le h.lt hg.size, ⟨cs, (hg.block _ (by omega) (by simp)).trans h1, h2⟩, ?_, h.ones, h.inv⟩
  exact (World.cell?_of_block (hg.block (w1.heap.size + 1) (by omega) (by simp))).trans h.box
theorem kv_two (w1 : World) (A C : Obj) : Below w1.heap.size w1 ((w1.alloc A).alloc C) := ((Below.refl w1.heap.size w1).alloc (Nat.le_refl _) A).alloc (by simp) C
theorem below_map {w w' : World} {r n : Nat} {D : DataW Value} (hb : Below w.heap.size w w') (h : w.ownsMap Tryz.prog 9 heldR r n D) : w'.ownsMap Tryz.prog 9 heldR r n D := by
  have hlt := h.lt
  obtain ⟨es, clock, h1, h2⟩ := h
  exact ⟨es, clock, (hb.block r hlt).trans h1, h2⟩
theorem KVS.start {w1 w0 : World} {ks : List ByteArray} {xs : List Value} (hx : xs.length = ks.length) (hg : ((w1.alloc (.cells (madeCells #[.string ⟨#[]⟩, .nilIface] (ks.length * 2)) 187)).alloc (.cells #[.slice (some ⟨w1.heap.size, 0, none⟩) ks.length ks.length] 185)).grownBy w0 none)
    (hs : w0.heap.size = ((w1.alloc (.cells (madeCells #[.string ⟨#[]⟩, .nilIface] (ks.length * 2)) 187)).alloc (.cells #[.slice (some ⟨w1.heap.size, 0, none⟩) ks.length ks.length] 185)).heap.size + 1) : KVS w1 w0 ks xs (Maps.has (mapD ks xs)) [] := by
  have hs2 : w0.heap.size = w1.heap.size + 3 := by rw [hs]; simp
  have e0 := hg.block w1.heap.size (by simp; omega) (by simp)
  have e1 := hg.block (w1.heap.size + 1) (by simp) (by simp)
  refine ⟨(kv_two w1 _ _).grown hg (by simp; omega) (fun k e => by cases e), by omega, ⟨madeCells #[.string ⟨#[]⟩, .nilIface] (ks.length * 2), e0.trans ?_, size_madeCells _ _, by simp, fun j hj => absurd hj (by simp)⟩, (World.cell?_of_block e1).trans ?_, by simp, KVInv.start hx⟩
  · exact (Below.heap_alloc _ _ _ (by simp)).trans (heap_alloc_new w1 _)
  · have e2 := heap_alloc_new (w1.alloc (.cells (madeCells #[.string ⟨#[]⟩, .nilIface] (ks.length * 2)) 187)) (.cells #[.slice (some ⟨w1.heap.size, 0, none⟩) ks.length ks.length] 185)
    rw [World.size_alloc] at e2
    rw [Lib.cell_of_heap e2]
    rfl
/-- An entry has come. -/
theorem KVS.entry {w1 W W' : World} {ks : List ByteArray} {xs : List Value} {left : Lit → Bool} {E : List KV} {key : ByteArray} {c : Value} {kl : Lit} {y : DataW Value × List MemPlace} (h : KVS w1 W ks xs left E) (hx : xs.length = ks.length) (hu : KeysUp ks) (hsh : ∀ x ∈ xs, x = .nilIface ∨ ∃ t z, x = .iface t z)
    (hkey : keyOf Tryz.prog 9 (.string key) = some kl) (hlx : left kl = true) (hv : heldR c = some y) (hat : ∀ zd, (mapD ks xs).atKey kl zd = y.1) (hg : W.grownBy W' (some (w1.heap.size + 2))) :
    kl = kS key ∧ (c = .nilIface ∨ ∃ t z, c = .iface t z) ∧ KVS w1 W' ks xs left E ∧ KVInv ks xs (fun q => left q && !q.sameKey (kS key)) (E ++ [(key, c)]) := by
  obtain ⟨s, e, hkl, hsz⟩ := keyOf_text Tryz.underlying9 hkey
  injection e with e
  subst e hkl
  have hk := (has_mapD_key hx key).1 (Maps.has_true_of_atKey hat)
  have hc : ∀ z, (mapD ks xs).atKey (kS key) z = .held c := fun z => by
    have := hat z
    rw [heldR_inv hv] at this
    exact this
  obtain ⟨i, hi, rfl⟩ := List.getElem_of_mem hk
  have h1 := mapD_get ks xs hx hu i hi (by omega) .nil
  have h2 := hc .nil
  unfold kS at h2
  rw [h1] at h2
  injection h2 with h2
  refine ⟨rfl, ?_, h.kept hg, h.inv.step hu hx hk hlx hc⟩
  rw [← h2]
  exact hsh _ (List.getElem_mem _)
theorem KVS.put {w1 W : World} {ks : List ByteArray} {xs : List Value} {left left' : Lit → Bool} {E : List KV} (h : KVS w1 W ks xs left E) (hn : E.length < ks.length) {key : ByteArray} {c : Value} (hc : c = .nilIface ∨ ∃ t z, c = .iface t z) (hi : KVInv ks xs left' (E ++ [(key, c)])) :
    KVS w1 (W.setCells w1.heap.size (E.length * 2) [.string key, c]) ks xs left' (E ++ [(key, c)]) := by
  have hg := setCells_gb (b := w1.heap.size) [.string key, c] (E.length * 2) W
  have hl := h.lt
  refine ⟨below_gb h.below hg h.below.size (Nat.le_refl _), Nat.lt_of_lt_of_le h.lt hg.size, h.row.push hn key c, ?_, fun p hp => ?_, hi⟩
  · exact (World.cell?_of_block (hg.block (w1.heap.size + 1) (by omega) (by simp))).trans h.box
  · rcases List.mem_append.1 hp with hp | hp
    · exact h.ones p hp
    · rw [List.mem_singleton.1 hp]
      exact hc
theorem RV.GoSV.shapes {w : World} {S : Nat → Prop} : ∀ {l : List RV} {xs : List Value}, RV.GoSV w S xs l → ∀ x ∈ xs, x = .nilIface ∨ ∃ t z, x = .iface t z
  | [], xs, h, x, hx => by
    unfold RV.GoSV at h
    rw [h] at hx
    cases hx
  | y :: ys, xs, h, x, hx => by
    unfold RV.GoSV at h
    obtain ⟨u, r, rfl, hu, h2⟩ := h
    rcases List.mem_cons.1 hx with rfl | hx
    · exact hu.shape
    · exact RV.GoSV.shapes h2 x hx

theorem KVInv.len {ks : List ByteArray} {xs : List Value} {left : Lit → Bool} {E : List KV} (h : KVInv ks xs left E) (hx : xs.length = ks.length) : E.length ≤ ks.length := by
  obtain ⟨R, hp, _⟩ := h
  have := hp.length_eq
  rw [List.length_append, List.length_zip] at this
  omega
/-- The writer's block is there. -/
def Wr.Lives (K : Wr) : Prop := ∀ B b l W, K.Is B b l W → b < W.heap.size
theorem kv_cells {W : World} {k : Nat} {u v : Value} {T : TypeId} {fz : Nat × Nat} (h : W.heap[k]? = some (.cells #[u, v] T fz)) : W.cell? ⟨k, 0, none⟩ = some u ∧ W.cell? ⟨k, 1, none⟩ = some v :=
  ⟨by rw [Lib.cell_of_heap h]; rfl, by rw [Lib.cell_of_heap h]; rfl⟩
/-- While the members are written. -/
structure OBJ (K : Wr) (B b eb : Nat) (w : World) (kb : Nat) (kvs : List KV) (l : List UInt8) (W : World) : Prop where
  enc : EncS K B b eb l W
  below : Below B w W
  kept : EKept b eb w W
  row : RowKV W kb kvs
theorem kept_block {b eb k : Nat} {W W' : World} {cs : Array Value} {fz : Nat × Nat} (hk : EKept b eb W W') (h : W.heap[k]? = some (.cells cs 187 fz)) (h1 : k ≠ b) (h2 : k ≠ eb) : W'.heap[k]? = some (.cells cs 187 fz) :=
  hk k _ h h1 h2 (fun c f e => by injection e with _ e _; cases e)
theorem OBJ.step {K : Wr} {B b eb : Nat} {w : World} {kb : Nat} {kvs : List KV} {l l' : List UInt8} {W W' : World} (h : OBJ K B b eb w kb kvs l W) (h1 : kb ≠ b) (h2 : kb ≠ eb) (he : EncS K B b eb l' W') (hb : Below B W W') (hk : EKept b eb W W') : OBJ K B b eb w kb kvs l' W' := by
  obtain ⟨⟨cs, fz, g1⟩, g2⟩ := h.row
  exact ⟨he, h.below.trans hb, h.kept.trans hk, h.row.kept ((kept_block hk g1 h1 h2).trans g1.symm)⟩

set_option maxRecDepth 100000 in
set_option maxHeartbeats 3200000 in
theorem encodeObject_any {K : Wr} (hKp : K.Keeps) (hKb : K.Bytes) (hKs : K.Strs) (hKl : K.Lives) (n : Nat) (ih : EncIH K n) (ks : List ByteArray) (vs : List RV) (xs : List Value) (r m B b eb : Nat) (l0 : List UInt8) (w : World) (hn : RV.nodesL vs ≤ n) (hg : RV.GoodL vs) (hkv : ks.length = vs.length) (hu : KeysUp ks) (hvk : ∀ k ∈ ks, Lib.validD k.data.toList = true)
    (hrB : r < B) (hm : w.ownsMap Tryz.prog 9 heldR r m (mapD ks xs)) (hx : xs.length = ks.length) (hr : RV.GoSV w (fun k => k < B) xs vs) (hS : EncS K B b eb l0 w) (hT : ∀ W, Below B w W → Tabs W) (hlen : l0.length + 40 * (RV.nodesL vs + RV.bytesL vs + keysSize ks) + 40 ≤ 140737488355000) :
    Calls Tryz.prog 133 #[.pointer (some ⟨eb, 0, none⟩), .map (some r)] w (EncPost K B b eb (l0 ++ (123 :: (RV.txtM ks vs).drop 1 ++ [125])) w) := by
  have HS := Lib.hid hS
  have HT := Lib.hid hT
  have HL := Lib.hid hlen
  have HIH := Lib.hid ih
  have HG := Lib.hid (And.intro hg hn)
  have HR := Lib.hid hr
  have HKV := Lib.hid (And.intro hkv (And.intro hu (And.intro hvk hx)))
  have hc0 := hS.iface
  have K' : Keyed Tryz.prog 9 := string_keyed Tryz.underlying9
  have hl2 : ks.length ≤ 140737488355000 := by have := RV.len_le vs; omega
  have HM := Lib.hid (And.intro hrB hm)
  clear hS hT hlen ih hg hn hr hkv hu hvk hx hm hrB
  have hmb := hKb.meth
  have henb := hKb.enter
  unfold EncPost
  go_enter Tryz.func133, Tryz.ntmps133
  go_wp2_with fail
  refine (hKb.write B b l0 123 _ HS.out.bld (by have := HL.out; omega) HS.out.size).mono ?_
  rintro e w1 ⟨rfl, hw1⟩
  have HM1 := Lib.hid ((same_lt hw1.2.1).map (S := fun k => k < B) HM.out.1 HM.out.2)
  have hlen1 := fun ty => HM1.out.len Tryz.underlying90 ty
  rw [size_mapD ks xs HKV.out.2.2.2] at hlen1
  have H1 := Lib.hid (show EncS K B b eb (l0 ++ [123]) w1 ∧ Below B w w1 ∧ EKept b eb w w1 from ⟨HS.out.wrote hw1, hw1.2.1, EKept.of_others hw1.2.2⟩)
  clear hw1 hc0
  have hmk := made_kv w1 ks.length (by have := HL.out; have := RV.len_le vs; have := HKV.out.1; omega)
  have hm2 := below_map (kv_two w1 (.cells (madeCells #[.string ⟨#[]⟩, .nilIface] (ks.length * 2)) 187) (.cells #[.slice (some ⟨w1.heap.size, 0, none⟩) ks.length ks.length] 185)) HM1.out
  go_wp2_with (at_range; refine wpList_range_own _ rfl _ 90 rfl 9 20 K' Tryz.underlying90 heldR r m _ rfl hm2 ?_; intro w0 hrg0 hg0 hs0)
  go_frame
  have HK0 := Lib.hid (KVS.start HKV.out.2.2.2 hg0 hs0)
  have HXS := Lib.hid HR.out.shapes
  rw [size_mapD ks xs HKV.out.2.2.2] at hrg0
  have hs1 : ((w1.alloc (.cells (madeCells #[.string ⟨#[]⟩, .nilIface] (ks.length * 2)) 187)).alloc (.cells #[.slice (some ⟨w1.heap.size, 0, none⟩) ks.length ks.length] 185)).heap.size = w1.heap.size + 2 := by simp
  rw [hs1] at hrg0 ⊢
  clear hg0 hs0 hs1 hm2 hmk hlen1
  go_loopg [5] ks.length (fun gk s5 wr => ∃ (left : Lit → Bool) (E : List KV), s5 = .int .i64 E.length ∧ wr.ranges Tryz.prog 9 heldR r (w1.heap.size + 2) m (mapD ks xs) left gk ∧ Hid (KVS w1 wr ks xs left E))
  case atStart => exact ⟨_, [], rfl, hrg0, HK0⟩
  case round =>
    obtain ⟨left, E, rfl, hrg, HJ⟩ := hrel
    clear HK0 hrg0
    go_wp2_with (at_next; refine wpList_next_ranges _ rfl _ rfl 9 K' heldR Value.string id (fun key kl h => by obtain ⟨s, hs, _⟩ := keyOf_text Tryz.underlying9 h; exact ⟨s, hs⟩) (fun v _ _ => ⟨v, rfl⟩) r (w1.heap.size + 2) m _ _ _ rfl hrg ?_ ?_)
    · intro hc0 hl0
      have hEn : E.length = ks.length := by have h1 := (HJ.out.inv.done HKV.out.2.2.2 hl0).length_eq; rw [List.length_zip] at h1; have := HKV.out.2.2.2; omega
      have hrow := HJ.out.row.done hEn (fun p hp => by rcases HJ.out.ones p hp with e | ⟨t, z, e⟩ <;> rw [e] <;> rfl)
      have hbx := HJ.out.box
      have HSC := Lib.hid (sort_kv_any HKV.out.2.1 HKV.out.2.2.2 (HJ.out.inv.done HKV.out.2.2.2 hl0) (by omega) w1.heap.size ks.length (w1.heap.size + 1) wr hrow (by rw [hEn]; exact hbx) (by omega))
      rw [hEn] at HSC
      have HB := Lib.hid (And.intro HJ.out.below HJ.out.lt)
      clear hrow hrg HJ hl0 hc0 hEn
      go_wp2_with fail
      refine HSC.out.mono ?_
      rintro e w3 ⟨rfl, hrow3, hg3⟩
      have hbx3 := (World.cell?_of_block (hg3.block (w1.heap.size + 1) (by have := HB.out.2; omega) (by simp))).trans hbx
      have hb3 := below_gb HB.out.1 hg3 HB.out.1.size (Nat.le_refl _)
      have HO := Lib.hid (show OBJ K B b eb w w1.heap.size (ks.zip xs) (l0 ++ 123 :: (RV.txtM ks (vs.take 0)).drop 1) w3 from ⟨by simpa [RV.txtM] using H1.out.1.below hKp hb3, H1.out.2.1.trans (hb3.mono H1.out.1.size), H1.out.2.2.trans (EKept.of_below hb3), hrow3⟩)
      have HNB := Lib.hid (show w1.heap.size ≠ b ∧ w1.heap.size ≠ eb ∧ b < w1.heap.size ∧ eb < w1.heap.size ∧ w1.heap.size ≤ w3.heap.size from by
        have g1 := hKl _ _ _ _ H1.out.1.bld
        have g2 := (Array.getElem?_eq_some_iff.1 H1.out.1.row.1).1
        have g3 := hb3.size
        refine ⟨?_, ?_, g1, g2, g3⟩ <;> omega)
      clear hrow3 hg3 hb3 hbx HSC HB
      go_wp2_with fail
      go_loopg [39] ks.length (fun gk s39 wr => ∃ i : Nat, s39 = .int .i64 i ∧ i ≤ ks.length ∧ gk = ks.length - i ∧ Hid (OBJ K B b eb w w1.heap.size (ks.zip xs) (l0 ++ 123 :: (RV.txtM ks (vs.take i)).drop 1) wr))
      case atStart => exact ⟨0, rfl, Nat.zero_le _, rfl, HO⟩
      case round =>
        obtain ⟨i, rfl, hi, rfl, HE⟩ := hrel
        clear HO hbx3
        by_cases hlt : i < ks.length
        · have hltv : i < vs.length := by have := HKV.out.1; omega
          have hltx : i < xs.length := by have := HKV.out.2.2.2; omega
          obtain ⟨hk0, hk1⟩ := HE.out.row.at i (by rw [List.length_zip]; omega)
          have hxs := HXS.out xs[i] (List.getElem_mem hltx)
          have hone : oneV xs[i] = xs[i] := oneV_self (by rcases hxs with e | ⟨t, z, e⟩ <;> rw [e] <;> rfl)
          rw [List.getElem_zip] at hk0 hk1
          simp only [Nat.zero_add, hone] at hk0 hk1
          have HV := Lib.hid (HR.out.get i hltv hltx)
          have hci := HE.out.enc.iface
          have hj : (i : Int) < (ks.length : Int) := by omega
          have HBD := Lib.hid (obj_bound hltv HKV.out.1 HG.out.1)
          have HTX := Lib.hid (txtM_take hltv hlt)
          clear hi hone
          have HXK := Lib.hid (HKV.out.2.2.1 ks[i] (List.getElem_mem hlt))
          have hal := fun o => (Below.refl wr.heap.size wr).alloc (Nat.le_refl _) o
          have HE4 := Lib.hid (fun o => HE.out.step HNB.out.1 HNB.out.2.1 (HE.out.enc.below hKp (hal o)) ((hal o).mono HE.out.enc.size) (EKept.of_below (hal o)))
          have HW := Lib.hid (And.intro HE.out.below.size (show w1.heap.size ≤ wr.heap.size from by have := HE.out.row.lt; omega))
          generalize hxe : xs[i] = x at *
          have hci4 := fun o => (HE4.out o).enc.iface
          clear hal hxe HE
          have HNE := Lib.hid (show wr.heap.size ≠ b ∧ wr.heap.size ≠ eb from by have h1 := HNB.out.2.2; have h2 := HW.out.2; omega)
          by_cases h0 : i = 0
          · have hi0 : ¬ (0 : Int) < (i : Int) := by omega
            have HTX' := Lib.hid (show (RV.txtM ks (vs.take (i + 1))).drop 1 = (RV.txtM ks (vs.take i)).drop 1 ++ (strT ks[i] ++ (58 :: vs[i].txt)) from by rw [HTX.out, if_pos h0]; simp)
            clear h0 HTX
            have HE5 := Lib.hid (HE4.out (.cells #[.string ks[i], x] 187))
            have HN5 := Lib.hid (heap_alloc_new wr (.cells #[.string ks[i], x] 187))
            rcases hxs with rfl | ⟨tt, zz, rfl⟩
            all_goals
              go_wp2_with fail
              refine (encodeString_any hKp hKb hKs ks[i] B b eb _ _ HXK.out HE5.out.enc (fun W h => HT.out W (HE5.out.below.trans h)) (by have h1 := HL.out; have h2 := HBD.out; simp only [List.length_append, List.length_cons, List.length_drop]; omega)).mono ?_
              rintro e w6 ⟨rfl, he6, hb6, hk6⟩
              have HE6 := Lib.hid (HE5.out.step HNB.out.1 HNB.out.2.1 he6 hb6 hk6)
              have HN6 := Lib.hid (kept_block hk6 HN5.out HNE.out.1 HNE.out.2)
              clear he6 hb6 hk6
              have hci6 := HE6.out.enc.iface
              go_wp2_with fail
              refine (hKb.write B b _ 58 _ HE6.out.enc.bld (by have h1 := HL.out; have h2 := HBD.out; have h3 := strT_len ks[i]; unfold strT at h3; simp only [List.length_append, List.length_cons, List.length_nil, List.length_drop] at h3 ⊢; omega) HE6.out.enc.size).mono ?_
              rintro e w7 ⟨rfl, hw7⟩
              have HE7 := Lib.hid (HE6.out.step HNB.out.1 HNB.out.2.1 (HE6.out.enc.wrote hw7) hw7.2.1 (EKept.of_others hw7.2.2))
              have HN7 := Lib.hid (kept_block (EKept.of_others (e := eb) hw7.2.2) HN6.out HNE.out.1 HNE.out.2)
              have hx1 := (kv_cells HN7.out).2
              clear hw7 hci6
              go_wp2_with fail
              refine (HIH.out vs[i] _ B b eb _ w7 (Nat.le_trans (RV.nodes_le hltv) HG.out.2) (HG.out.1.get i hltv) (HV.out.keep (same_lt HE7.out.below) (fun _ h _ => h)) HE7.out.enc (fun W h => HT.out W (HE7.out.below.trans h)) (by have h1 := HL.out; have h2 := HBD.out; have h3 := strT_len ks[i]; unfold strT at h3; simp only [List.length_append, List.length_cons, List.length_nil, List.length_drop] at h3 ⊢; omega)).mono ?_
              rintro e w8 ⟨rfl, he8, hb8, hk8⟩
              have HE8 := Lib.hid (show OBJ K B b eb w w1.heap.size (ks.zip xs) (l0 ++ 123 :: (RV.txtM ks (vs.take (i + 1))).drop 1) w8 from by
                rw [HTX'.out]
                have h8 := HE7.out.step HNB.out.1 HNB.out.2.1 he8 hb8 hk8
                simpa [strT] using h8)
              clear he8 hb8 hk8 hx1
              go_wp2_with fail
              go_roundg (ks.length - (i + 1))
              case measure => omega
              case rel => exact ⟨i + 1, by go_num, by omega, rfl, HE8⟩
          · have hi0 : (0 : Int) < (i : Int) := by omega
            have HTX' := Lib.hid (show (RV.txtM ks (vs.take (i + 1))).drop 1 = (RV.txtM ks (vs.take i)).drop 1 ++ [44] ++ (strT ks[i] ++ (58 :: vs[i].txt)) from by rw [HTX.out, if_neg h0])
            clear h0 HTX
            rcases hxs with rfl | ⟨tt, zz, rfl⟩
            all_goals
              go_wp2_with fail
              refine (hKb.write B b _ 44 _ (HE4.out _).enc.bld (by have h1 := HL.out; have h2 := HBD.out; simp only [List.length_append, List.length_cons, List.length_drop]; omega) (HE4.out _).enc.size).mono ?_
              rintro e w5 ⟨rfl, hw5⟩
              have HE5 := Lib.hid ((HE4.out _).step HNB.out.1 HNB.out.2.1 ((HE4.out _).enc.wrote hw5) hw5.2.1 (EKept.of_others hw5.2.2))
              have HN5 := Lib.hid (kept_block (EKept.of_others (e := eb) hw5.2.2) (heap_alloc_new wr _) HNE.out.1 HNE.out.2)
              have hx0 := (kv_cells HN5.out).1
              clear hw5
              go_wp2_with fail
              refine (encodeString_any hKp hKb hKs ks[i] B b eb _ _ HXK.out HE5.out.enc (fun W h => HT.out W (HE5.out.below.trans h)) (by have h1 := HL.out; have h2 := HBD.out; simp only [List.length_append, List.length_cons, List.length_nil, List.length_drop]; omega)).mono ?_
              rintro e w6 ⟨rfl, he6, hb6, hk6⟩
              have HE6 := Lib.hid (HE5.out.step HNB.out.1 HNB.out.2.1 he6 hb6 hk6)
              have HN6 := Lib.hid (kept_block hk6 HN5.out HNE.out.1 HNE.out.2)
              clear he6 hb6 hk6
              have hci6 := HE6.out.enc.iface
              go_wp2_with fail
              refine (hKb.write B b _ 58 _ HE6.out.enc.bld (by have h1 := HL.out; have h2 := HBD.out; have h3 := strT_len ks[i]; unfold strT at h3; simp only [List.length_append, List.length_cons, List.length_nil, List.length_drop] at h3 ⊢; omega) HE6.out.enc.size).mono ?_
              rintro e w7 ⟨rfl, hw7⟩
              have HE7 := Lib.hid (HE6.out.step HNB.out.1 HNB.out.2.1 (HE6.out.enc.wrote hw7) hw7.2.1 (EKept.of_others hw7.2.2))
              have HN7 := Lib.hid (kept_block (EKept.of_others (e := eb) hw7.2.2) HN6.out HNE.out.1 HNE.out.2)
              have hx1 := (kv_cells HN7.out).2
              clear hw7 hci6
              go_wp2_with fail
              refine (HIH.out vs[i] _ B b eb _ w7 (Nat.le_trans (RV.nodes_le hltv) HG.out.2) (HG.out.1.get i hltv) (HV.out.keep (same_lt HE7.out.below) (fun _ h _ => h)) HE7.out.enc (fun W h => HT.out W (HE7.out.below.trans h)) (by have h1 := HL.out; have h2 := HBD.out; have h3 := strT_len ks[i]; unfold strT at h3; simp only [List.length_append, List.length_cons, List.length_nil, List.length_drop] at h3 ⊢; omega)).mono ?_
              rintro e w8 ⟨rfl, he8, hb8, hk8⟩
              have HE8 := Lib.hid (show OBJ K B b eb w w1.heap.size (ks.zip xs) (l0 ++ 123 :: (RV.txtM ks (vs.take (i + 1))).drop 1) w8 from by
                rw [HTX'.out]
                have h8 := HE7.out.step HNB.out.1 HNB.out.2.1 he8 hb8 hk8
                simpa [strT] using h8)
              clear he8 hb8 hk8 hx1
              go_wp2_with fail
              go_roundg (ks.length - (i + 1))
              case measure => omega
              case rel => exact ⟨i + 1, by go_num, by omega, rfl, HE8⟩
        · obtain rfl : i = ks.length := by omega
          have hci := HE.out.enc.iface
          have HB := Lib.hid (txtM_len HKV.out.1 HG.out.1)
          have htk : vs.take ks.length = vs := by rw [HKV.out.1]; exact List.take_length
          rw [htk] at HE
          clear hi hlt htk
          go_wp2_with fail
          refine (hKb.write B b _ 125 _ HE.out.enc.bld (by have h1 := HL.out; have h2 := HB.out; simp only [List.length_append, List.length_cons, List.length_drop]; omega) HE.out.enc.size).mono ?_
          rintro e w9 ⟨rfl, hw9⟩
          have HW9 := Lib.hid hw9
          clear hw9 hci
          go_wp2_with fail
          go_end0
          refine ⟨rfl, ?_, HE.out.below.trans HW9.out.2.1, HE.out.kept.trans (EKept.of_others HW9.out.2.2)⟩
          have h3 := HE.out.enc.wrote HW9.out
          simpa using h3
    · intro key c kl yd yp w2 cnt1 hkey hlx hv hat hrg1 hlt hg1 hs2 hen
      have hE := HJ.out.entry HKV.out.2.2.2 HKV.out.2.1 HXS.out (y := (yd, yp)) hkey hlx hv hat hg1
      obtain ⟨rfl, hcs, hj2, hinv⟩ := hE
      have hlt2 : E.length < ks.length := by have := hinv.len HKV.out.2.2.2; simp at this; omega
      have hbx := hj2.box
      obtain ⟨u0, u1, hu0, hu1, hf0, hf1⟩ := hj2.row.cell hlt2
      have HJ2 := Lib.hid (hj2.put hlt2 hcs hinv)
      have HRG := Lib.hid hrg1
      have hr1 := HM1.out.lt
      have hj : (E.length : Int) < (ks.length : Int) := by omega
      clear hinv hj2 hrg1 hv hat hrg HJ hg1 hs2
      have hw0 : ∀ v, (w2.setCell ⟨w1.heap.size, E.length * 2, none⟩ v).cell? ⟨w1.heap.size, E.length * 2 + 1, none⟩ = some u1 := fun v => by rw [World.cell?_setCell_other _ _ _ _ (by intro e; injection e with _ e; omega)]; exact hu1
      have HRG3 := Lib.hid (HRG.out.kept (setCells_gb (b := w1.heap.size) [.string key, c] (E.length * 2) w2) (fun e => by injection e with e; omega) (fun e => by injection e with e; omega))
      rcases hcs with rfl | ⟨tt, zz, rfl⟩
      all_goals
        go_wp2_with fail
        go_roundg cnt1
        case measure => exact hlt
        case rel => exact ⟨_, _, by simp, HRG3.out, HJ2⟩
end Go.Proofs.YtjpcdbopioblaaaGreatDoor

/- encode, for whatever writer and every good tree. -/
namespace Go.Proofs.YtjpcdbopioblaaaGreatDoor
open Go.RowKit

theorem halfF_bits (h : Int) : halfF h = halfBits h := rfl
/-- What encode needs of a writer. -/
structure Wr.All (K : Wr) : Prop where
  keeps : K.Keeps
  bytes : K.Bytes
  strs : K.Strs
  writes : K.Writes
  lives : K.Lives
theorem encode_all {K : Wr} (hK : K.All) : ∀ n, EncIH K n := by
  intro n
  induction n with
  | zero => intro x v B b eb l0 w hn; have := x.nodes_pos; omega
  | succ n ih =>
    intro x v B b eb l0 w hn hg hr hS hT hlen
    obtain ⟨k, h, t, l, ks, vs⟩ := x
    unfold RV.Good at hg
    obtain ⟨g0, g6, g3, g4, g5, -, gkv, gh1, gh2, gh3, gt, gl, gk, gu, gv⟩ := hg
    unfold RV.nodes RV.bytes at hlen
    unfold RV.nodes at hn
    unfold RV.GoS at hr
    rcases hr with ⟨rfl, rfl⟩ | ⟨rfl, rfl⟩ | ⟨rfl, rfl⟩ | ⟨rfl, rfl⟩ | ⟨rfl, rfl⟩ | ⟨rfl, a, cap, rfl, hl⟩ | ⟨rfl, r, m, xs, rfl, hrB, hm, hmap, hxs, hv⟩
    · exact encode_null hK.strs B b eb l0 w hS (by omega)
    · exact encode_false hK.strs B b eb l0 w hS (by omega)
    · exact encode_true hK.strs B b eb l0 w hS (by omega)
    · have e : (RV.mk 3 h t l ks vs).txt = numT h := by unfold RV.txt; rfl
      rw [e]
      unfold numG numT
      by_cases h0 : h.tmod 2 = 0
      · rw [if_pos h0, if_pos h0]
        have := Int.mul_tdiv_add_tmod h 2
        exact encode_int hK.keeps hK.writes (h.tdiv 2) B b eb l0 w (by omega) (by omega) hS (by omega)
      · have hne : h % 2 ≠ 0 := fun e => h0 (Int.tmod_eq_zero_of_dvd (Int.dvd_of_emod_eq_zero e))
        rw [if_neg h0, if_neg h0, halfF_bits]
        exact encode_flt B b eb l0 _ _ w (encodeFloat64_any K hK.keeps hK.writes h B b eb l0 w hS (by omega) (by omega) (by omega))
    · exact encode_str hK.keeps hK.bytes hK.strs t B b eb l0 w gt hS hT (by omega)
    · exact encode_list B b eb l0 _ a l.length cap w (encodeArray_any hK.keeps hK.bytes n ih l a cap B b eb l0 w (by omega) gl hl hS hT (by omega))
    · exact encode_map B b eb l0 _ (some r) w (encodeObject_any hK.keeps hK.bytes hK.strs hK.lives n ih ks vs xs r m B b eb l0 w (by omega) gv gkv gu gk hrB hmap hxs hv hS hT (by omega))
theorem encode_any {K : Wr} (hK : K.All) (x : RV) (v : Value) (B b eb : Nat) (l0 : List UInt8) (w : World) (hg : x.Good) (hr : x.GoS w (fun k => k < B) v) (hS : EncS K B b eb l0 w) (hT : ∀ W, Below B w W → Tabs W) (hlen : l0.length + 40 * (x.nodes + x.bytes) ≤ 140737488355000) :
    Calls Tryz.prog 77 #[.pointer (some ⟨eb, 0, none⟩), v] w (EncPost K B b eb (l0 ++ x.txt) w) :=
  encode_all hK x.nodes x v B b eb l0 w (Nat.le_refl _) hg hr hS hT hlen
end Go.Proofs.YtjpcdbopioblaaaGreatDoor

/- The JSON text of a value as a string: jsonMarshal walked. -/
namespace Go.Proofs.YtjpcdbopioblaaaGreatDoor
open Go.RowKit

def encZero : Array Value := #[.nilIface] ++ Array.replicate 64 (.int .u8 0)
theorem encZero_run (w : World) : (zeroValue 105).run Tryz.prog w = .ok (.agg encZero) w := by kernel_rfl
theorem encZero_ne : (encZero = #[]) = False := by
  refine eq_false fun h => ?_
  have : encZero.size = 0 := by rw [h]; rfl
  exact absurd this (by decide)
theorem encZero_set (v : Value) : (encZero.setIfInBounds 0 v)[0]? = some v ∧ (encZero.setIfInBounds 0 v).size = 65 := by
  have h : encZero.size = 65 := by decide
  refine ⟨?_, by rw [Array.size_setIfInBounds, h]⟩
  rw [Array.getElem?_setIfInBounds]
  simp [h]
theorem bldWr_all : bldWr.All := ⟨bldWr_keeps, bldWr_bytes, bldWr_strs, bldWr_writes, fun _ _ _ _ h => by
  rcases h with ⟨_, v, h1, _⟩ | ⟨_, v, h1, _⟩
  · exact (Array.getElem?_eq_some_iff.1 h1).1
  · exact (Array.getElem?_eq_some_iff.1 h1).1⟩

set_option maxRecDepth 100000 in
set_option maxHeartbeats 800000 in
theorem jsonMarshal_any (x : RV) (v : Value) (w : World) (hg : x.Good) (hr : x.GoS w (fun k => k < w.heap.size) v) (hT : ∀ W, Below w.heap.size w W → Tabs W) (hlen : 40 * (x.nodes + x.bytes) ≤ 140737488355000) :
    Calls Tryz.prog 186 #[v] w fun e w' => e = .returned (.string ⟨x.txt.toArray⟩) ∧ Below w.heap.size w w' := by
  have HB0 := Lib.hid (fun o => (Below.refl w.heap.size w).alloc (Nat.le_refl _) o)
  have HE : Hid (∀ cs : Array Value, cs[0]? = some (.iface 222 (.pointer (some ⟨w.heap.size, 0, none⟩))) → cs.size = 65 → EncS bldWr w.heap.size w.heap.size (w.heap.size + 1) [] ((w.alloc (.cells #[.pointer none, .slice none 0 0] 224)).alloc (.cells cs 105))) := Lib.hid fun cs hc hz => by
    have hb : Lib.IsBuilderF 224 5 w.heap.size w.heap.size [] (w.alloc (.cells #[.pointer none, .slice none 0 0] 224)) := .of (Lib.fresh_isBuilder _ _ w)
    have he := heap_alloc_new (w.alloc (.cells #[.pointer none, .slice none 0 0] 224)) (.cells cs 105)
    rw [World.size_alloc] at he
    exact ⟨by show Lib.IsBuilderF _ _ _ _ _ _; simpa [Lib.byteCells] using hb.alloc _, ⟨cs, he, hc, hz⟩, by omega, by omega, by simp; omega⟩
  have HB2 : Hid (∀ o o', Below w.heap.size w ((w.alloc o).alloc o')) := Lib.hid fun o o' => ((Below.refl w.heap.size w).alloc (Nat.le_refl _) o).alloc (by simp) o'
  have HX : Hid (∀ cs : Array Value, cs[0]? = some (.iface 222 (.pointer (some ⟨w.heap.size, 0, none⟩))) → cs.size = 65 → Calls Tryz.prog 77 #[.pointer (some ⟨w.heap.size + 1, 0, none⟩), v] ((w.alloc (.cells #[.pointer none, .slice none 0 0] 224)).alloc (.cells cs 105)) (EncPost bldWr w.heap.size w.heap.size (w.heap.size + 1) ([] ++ x.txt) ((w.alloc (.cells #[.pointer none, .slice none 0 0] 224)).alloc (.cells cs 105)))) := Lib.hid fun cs hc hz =>
    encode_any bldWr_all x v _ _ _ _ _ hg (hr.keep (same_lt (HB2.out _ _)) (fun _ h _ => h)) (HE.out cs hc hz) (fun W h => hT W ((HB2.out _ _).trans h)) (by simpa using hlen)
  clear hg hr hT hlen
  have hz := encZero_run
  have hzn := encZero_ne
  go_enter Tryz.func186, Tryz.ntmps186
  go_wp2_with fail
  refine Calls.mono (HX.out _ ?_ ?_) ?_
  · exact (encZero_set _).1
  · exact (encZero_set _).2
  rintro e w2 ⟨rfl, h2, hb2, hk2⟩
  have H2 := Lib.hid h2.bld
  have HB := Lib.hid ((HB2.out _ _).trans hb2)
  clear h2 hb2 hk2
  go_wp2_with fail
  refine (Go.Proofs.Tryz.bld_String_k _ _ _ _ H2.out HB.out.size).mono ?_
  rintro e w3 ⟨rfl, h3, hb3, hk3⟩
  have HB3 := Lib.hid (HB.out.trans hb3)
  clear h3 hb3 hk3
  go_wp2_with fail
  go_ret
  exact ⟨rfl, HB3.out⟩
end Go.Proofs.YtjpcdbopioblaaaGreatDoor

/- impl.FormatHTML walked: the text of a value, its signs written as their entities. -/
namespace Go.Proofs.YtjpcdbopioblaaaGreatDoor
open Go.RowKit

/-- What tostring makes of a tree. -/
def RV.sText : RV → List UInt8
  | .mk k h t l ks vs => if k = 4 then t.data.toList else (RV.mk k h t l ks vs).txt
theorem sText_len {x : RV} (hg : x.Good) : x.sText.length ≤ 40 * (x.nodes + x.bytes) := by
  have h1 := txt_len hg
  obtain ⟨k, h, t, l, ks, vs⟩ := x
  show (if k = 4 then t.data.toList else (RV.mk k h t l ks vs).txt).length ≤ _
  by_cases hk : k = 4
  · have e : t.data.toList.length = t.size := Array.length_toList
    rw [if_pos hk, e]
    unfold RV.bytes
    omega
  · rw [if_neg hk]
    omega
def htmlOf (x : RV) : ByteArray := ⟨(x.sText.flatMap (esc prH)).toArray⟩
theorem prH_len : prH.length = 5 ∧ ∀ p ∈ prH, p.2.length ≤ 10 := ⟨rfl, by decide⟩
theorem htmlOf_size {x : RV} (hg : x.Good) (hn : x.nodes ≤ 400) (hb : x.bytes ≤ 2000) : (htmlOf x).size ≤ 1000000 := by
  have h1 := escs_len (m := 10) prH_len.2 (by decide) x.sText
  have h2 := sText_len hg
  unfold htmlOf
  show (List.toArray _).size ≤ _
  rw [List.size_toArray]
  omega

theorem go_not_str {w : World} {base : Nat} {x : Value} {y : RV} (h : y.Go w base x) (hk : y.kd ≠ 4) (wx : World) :
    (Instr.typeAssert x 20 9 true).run Tryz.prog wx = .ok (.tuple #[.string ByteArray.empty, .bool false]) wx := by
  obtain ⟨k, h', t, l, ks, vs⟩ := y
  have h4 : k ≠ 4 := hk
  unfold RV.Go at h
  rcases h with ⟨_, e⟩ | ⟨_, e⟩ | ⟨_, e⟩ | ⟨_, e⟩ | ⟨e, _⟩ | ⟨_, a, cap, e, _⟩ | ⟨_, r, n, xs, e, _⟩
  · subst e; exact as_nil_str wx
  · subst e; exact as_bool_str _ wx
  · subst e; exact as_bool_str _ wx
  · subst e
    unfold numG
    split
    · exact as_int_str _ wx
    · exact as_float_str _ wx
  · exact absurd e h4
  · subst e; exact as_list_str _ wx
  · subst e; exact as_map_str _ wx
set_option maxRecDepth 100000 in
theorem funcToJSON_any (x : RV) (v : Value) (w : World) (hg : x.Good) (hr : x.GoS w (fun k => k < w.heap.size) v) (hT : ∀ W, Below w.heap.size w W → Tabs W) (hlen : 40 * (x.nodes + x.bytes) ≤ 140737488355000) :
    Calls Tryz.prog 164 #[v] w fun e w' => e = .returned (.iface 9 (.string ⟨x.txt.toArray⟩)) ∧ Below w.heap.size w w' := by
  have HJ := Lib.hid (jsonMarshal_any x v w hg hr hT hlen)
  clear hg hr hT hlen
  generalize (⟨x.txt.toArray⟩ : ByteArray) = t at *
  go_enter Tryz.func164, Tryz.ntmps164
  go_wp2_with fail
  refine HJ.out.mono ?_
  rintro e w1 ⟨rfl, hb⟩
  have HB := Lib.hid hb
  clear hb HJ
  go_wp2_with fail
  go_ret
  exact ⟨rfl, HB.out⟩
set_option maxRecDepth 100000 in
theorem funcToString_any (x : RV) (v : Value) (w : World) (hg : x.Good) (hr : x.GoS w (fun k => k < w.heap.size) v) (hT : ∀ W, Below w.heap.size w W → Tabs W) (hlen : 40 * (x.nodes + x.bytes) ≤ 140737488355000) :
    Calls Tryz.prog 136 #[v] w fun e w' => e = .returned (.iface 9 (.string ⟨x.sText.toArray⟩)) ∧ Below w.heap.size w w' := by
  by_cases hk : x.kd = 4
  · have hv : v = .iface 9 (.string ⟨x.sText.toArray⟩) := by
      obtain ⟨k, h, t, l, ks, vs⟩ := x
      obtain rfl : k = 4 := hk
      unfold RV.GoS at hr
      rcases hr with ⟨e, _⟩ | ⟨e, _⟩ | ⟨e, _⟩ | ⟨e, _⟩ | ⟨_, e⟩ | ⟨e, _⟩ | ⟨e, _⟩
      all_goals first | exact absurd e (by decide) | exact e
    subst hv
    clear hg hr hT hlen hk
    generalize (⟨x.sText.toArray⟩ : ByteArray) = t at *
    have a_str := as_str_str
    go_enter Tryz.func136, Tryz.ntmps136
    go_wp2_with fail
    go_ret
    exact ⟨rfl, Below.refl _ _⟩
  · have he : x.sText = x.txt := by
      obtain ⟨k, h, t, l, ks, vs⟩ := x
      exact if_neg hk
    rw [he]
    have HJ := Lib.hid (funcToJSON_any x v w hg hr hT hlen)
    have a_str := go_not_str hr.toGo hk
    clear hg hr hT hlen hk he
    generalize (⟨x.txt.toArray⟩ : ByteArray) = t at *
    go_enter Tryz.func136, Tryz.ntmps136
    go_wp2_with fail
    refine HJ.out.mono ?_
    rintro e w1 ⟨rfl, hb⟩
    have HB := Lib.hid hb
    clear hb HJ
    go_wp2_with fail
    go_ret
    exact ⟨rfl, HB.out⟩
set_option maxRecDepth 100000 in
theorem htmlEscaper_any (w : World) : Calls Tryz.prog 137 #[] w fun e w' => e = .returned (.slice (some ⟨w.heap.size, 0, none⟩) 10 10) ∧ PairsAt w' w.heap.size prH ∧ Below w.heap.size w w' := by
  go_enter Tryz.func137, Tryz.ntmps137
  go_wp2_with fail
  go_ret
  refine ⟨rfl, pairs_built (heap_alloc_new w _) rfl, (Below.refl _ _).alloc (Nat.le_refl _) _⟩
set_option maxRecDepth 100000 in
theorem funcToHTML_any (x : RV) (v : Value) (w : World) (hg : x.Good) (hn : x.nodes ≤ 400) (hbt : x.bytes ≤ 2000) (hr : x.GoS w (fun k => k < w.heap.size) v) (hT : ∀ W, Below w.heap.size w W → Tabs W) :
    Calls Tryz.prog 90 #[v] w fun e w' => e = .returned (.iface 9 (.string (htmlOf x))) ∧ Below w.heap.size w w' := by
  have HS := Lib.hid (funcToString_any x v w hg hr hT (by omega))
  have hsz : (⟨x.sText.toArray⟩ : ByteArray).size ≤ 1000000 := by
    have := sText_len hg
    show (List.toArray _).size ≤ _
    rw [List.size_toArray]
    omega
  have HE := Lib.hid (fun wx => htmlEscaper_any wx)
  have HR := Lib.hid (fun (b c : Nat) (wx : World) (hP : PairsAt wx b prH) => replace_any prH prH_len.1 prH_len.2 ⟨x.sText.toArray⟩ b c wx hP hsz)
  have e : htmlOf x = ⟨((⟨x.sText.toArray⟩ : ByteArray).data.toList.flatMap (esc prH)).toArray⟩ := rfl
  rw [← e] at HR
  have a_str := as_str_str
  clear hg hn hbt hr hT hsz e
  generalize htmlOf x = th at *
  generalize (⟨x.sText.toArray⟩ : ByteArray) = ts at *
  go_enter Tryz.func90, Tryz.ntmps90
  go_wp2_with fail
  refine HS.out.mono ?_
  rintro e w1 ⟨rfl, hb1⟩
  have HB1 := Lib.hid hb1
  clear hb1 HS
  go_wp2_with fail
  refine (HE.out _).mono ?_
  rintro e w2 ⟨rfl, hp2, hb2⟩
  have HP2 := Lib.hid hp2
  have HB2 := Lib.hid (HB1.out.trans (hb2.mono HB1.out.size))
  clear hp2 hb2
  go_wp2_with fail
  refine (HR.out _ _ _ HP2.out).mono ?_
  rintro e w3 ⟨rfl, hb3⟩
  have HB3 := Lib.hid (HB2.out.trans (hb3.mono HB2.out.size))
  clear hb3
  go_wp2_with fail
  go_ret
  exact ⟨rfl, HB3.out⟩
set_option maxRecDepth 100000 in
theorem zzHTML_any (x : RV) (v : Value) (w : World) (hg : x.Good) (hn : x.nodes ≤ 400) (hbt : x.bytes ≤ 2000) (hr : x.GoS w (fun k => k < w.heap.size) v) (hT : ∀ W, Below w.heap.size w W → Tabs W) :
    Calls Tryz.prog 43 #[v] w fun e w' => e = .returned (.iface 9 (.string (htmlOf x))) ∧ Below w.heap.size w w' := by
  have HN := Lib.hid (funcToHTML_any x v w hg hn hbt hr hT)
  clear hg hn hbt hr hT
  generalize htmlOf x = th at *
  go_enter Tryz.func43, Tryz.ntmps43
  go_wp2_with fail
  refine HN.out.mono ?_
  rintro e w2 ⟨rfl, hb⟩
  have HB := Lib.hid hb
  clear hb
  go_wp2_with fail
  go_ret
  exact ⟨rfl, HB.out⟩

theorem tx4_go (t : ByteArray) (wx : World) : (tx4 t).Go wx 0 (.iface 9 (.string t)) := by unfold tx4 RV.Go; exact .inr (.inr (.inr (.inr (.inl ⟨rfl, rfl⟩))))
set_option maxRecDepth 100000 in
set_option maxHeartbeats 1600000 in
theorem implFormatHTML_any (x : RV) (v : Value) (w : World) (hg : x.Good) (hn : x.nodes ≤ 400) (hbt : x.bytes ≤ 2000) (hr : x.Rep w v) (hT : Tabs w) :
    Calls Tryz.prog 18 #[v] w (ResPost (tx4 (htmlOf x)) w) := by
  have hz := htmlOf_size hg hn hbt
  obtain ⟨c0, c1, c2, c3, c4, c5, rfl⟩ : ∃ c0 c1 c2 c3 c4 c5, v = .agg #[c0, c1, c2, c3, c4, c5] := by
    obtain ⟨k, h, t, l, ks, vs⟩ := x
    unfold RV.Rep at hr
    obtain ⟨_, _, _, _, _, _, rfl, -⟩ := hr
    exact ⟨_, _, _, _, _, _, rfl⟩
  obtain ⟨k, h, t, al, nl, cl, ak, nk, ck, av, nv, cv, rfl, rfl, rfl, rfl, rfl, rfl⟩ := hr.shape
  have HB := Lib.hid (fun o o' => (((Below.refl w.heap.size w).alloc (Nat.le_refl _) o).alloc (by simp) o'))
  have HT1 := Lib.hid (fun o o' => toGo_any 400 (Nat.le_refl _) x _ ((w.alloc o).alloc o') hn hg (hr.below (HB.out o o')))
  have HN := Lib.hid (fun (y : Value) (wx : World) (hb : Below w.heap.size w wx) (hy : x.GoS wx (fun k => k < wx.heap.size) y) => zzHTML_any x y wx hg hn hbt hy (fun W h => hT.below (hb.trans (h.mono hb.size))))
  have HR := Lib.hid (fun wx => result_any (tx4 (htmlOf x)) _ wx 0 (tx4_go _ wx) (fun w' _ => (fromGo_text (htmlOf x) w').mono fun e w'' ⟨he, hb⟩ => ⟨_, he, fun _ _ => tx4_rep (by unfold reachN; omega), hb⟩))
  clear hg hn hbt hr hT hz
  unfold GoPost at HT1
  generalize htmlOf x = th at *
  generalize tx4 th = T at HR ⊢
  unfold ResPost
  go_enter Tryz.func18, Tryz.ntmps18
  go_wp2_with fail
  refine (HT1.out _ _).mono ?_
  rintro e w1 ⟨y, rfl, hy, hb1⟩
  have HY := Lib.hid (hy.toS.keep (SameOn.of_below (Below.refl _ w1)) (S' := fun k => k < w1.heap.size) (fun k _ h => h))
  have hsh := hy.shape
  have HB1 := Lib.hid ((HB.out _ _).trans (hb1.mono (HB.out _ _).size))
  obtain ⟨hc1', hf1'⟩ := bcell hb1
  have hz1 := hb1.size
  simp at hz1
  clear hb1 hy
  have hy1 : w.heap.size + 1 < w1.heap.size := by omega
  have hc1 := fun o => hc1' (w.heap.size + 1) o (by simp)
  have hf1 := fun o => hf1' (w.heap.size + 1) o (by simp)
  clear hc1' hf1' hz1
  rcases hsh with rfl | ⟨tt, zz, rfl⟩
  all_goals
    go_wp2_with fail
    refine (HN.out _ w1 HB1.out HY.out).mono ?_
    rintro e w2 ⟨rfl, hb2⟩
    have HB2 := Lib.hid (HB1.out.trans (hb2.mono HB1.out.size))
    obtain ⟨hc2', hf2'⟩ := bcell hb2
    have hz2 := hb2.size
    have hc2 := fun o => hc2' (w.heap.size + 1) o hy1
    have hf2 := fun o => hf2' (w.heap.size + 1) o hy1
    have hy2 : w.heap.size + 1 < w2.heap.size := by omega
    clear hc2' hf2' hb2 hz2
    go_wp2_with fail
    refine (HR.out _).mono ?_
    rintro e w3 ⟨r, rfl, hr, hb3⟩
    have hsh := hr.shape
    have HRR := Lib.hid hr
    have HB3 := Lib.hid (HB2.out.trans (hb3.mono HB2.out.size))
    have HZ3 := Lib.hid hb3.size
    obtain ⟨hc3', hf3'⟩ := bcell hb3
    have hc3 := fun o => hc3' (w.heap.size + 1) o hy2
    have hf3 := fun o => hf3' (w.heap.size + 1) o hy2
    clear hc3' hf3' hb3 hr
    obtain ⟨rk, rh, rt, ral, rn, rcl, rak, rm, rck, rav, rq, rcv, rfl⟩ := hsh
    go_wp2_with fail
    refine bodyPost_ret (v := .agg #[.int .i64 rk, .int .i64 rh, .string rt, .slice ral rn rcl, .slice rak rm rck, .slice rav rq rcv, .int .i64 0]) (by rw [results_cell rfl]; go_simp) rfl ?_
    have fin : ∀ wx, w3.grownBy wx (some (w.heap.size + 1)) → (∃ r, Ending.returned (.agg #[.int .i64 rk, .int .i64 rh, .string rt, .slice ral rn rcl, .slice rak rm rck, .slice rav rq rcv, .int .i64 0]) = Ending.returned r ∧ ResHere w.heap.size T wx r ∧ Below w.heap.size w wx) := fun wx hgb => by
      refine ⟨_, rfl, fun wy hx => HRR.out wy fun kk hb hk => ?_, below_gb HB3.out hgb HB3.out.size (by omega)⟩
      have h2 := hy2
      exact (hx kk (by omega) (Nat.lt_of_lt_of_le hk hgb.size)).trans (hgb.block kk hk (fun e => by injection e; omega))
    with_reducible refine fin _ ?_
    repeat' (with_reducible first | exact World.grownBy.refl _ _ | refine gb_alloc ?_ _ | refine gb_set ?_ _ _)
end Go.Proofs.YtjpcdbopioblaaaGreatDoor

/- The reference's @html walked: changed, String, Format. -/
namespace Go.Proofs.YtjpcdbopioblaaaGreatDoor
open Go.RowKit

theorem escB_take {s : ByteArray} {pr : List (UInt8 × List UInt8)} {i : Nat} (h : i < s.size) : (⟨((s.data.toList.take (i + 1)).flatMap (esc pr)).toArray⟩ : ByteArray) = ⟨((s.data.toList.take i).flatMap (esc pr)).toArray⟩ ++ ⟨(esc pr s[i]).toArray⟩ := by
  rw [esc_take h]
  exact ByteArray.ext (by simp)
theorem one_eq {a b : UInt8} : (((⟨#[a]⟩ : ByteArray).toList == (⟨#[b]⟩ : ByteArray).toList) = true) ↔ a = b := by
  rw [beq_iff_eq, ByteArray.toList_eq, ByteArray.toList_eq]
  simp
set_option maxRecDepth 100000 in
set_option maxHeartbeats 3200000 in
theorem changed_any (pr : List (UInt8 × List UInt8)) (hpr : pr.length = 5) (hq : ∀ p ∈ pr, p.2.length ≤ 10) (s : ByteArray) (b c : Nat) (w : World) (hP : PairsAt w b pr) (hs : s.size ≤ 1000000) :
    Calls Tryz.prog 86 #[.string s, .slice (some ⟨b, 0, none⟩) 10 c] w fun e w' => e = .returned (.string ⟨(s.data.toList.flatMap (esc pr)).toArray⟩) ∧ w = w' := by
  have HP := Lib.hid hP
  have HQ := Lib.hid (And.intro hpr hq)
  clear hP hpr hq
  go_enter Tryz.func86, Tryz.ntmps86
  go_wp2_with fail
  go_loopg [5, 6] s.size (fun gk s5 s6 wr => w = wr ∧ ∃ i : Nat, s5 = .string ⟨((s.data.toList.take i).flatMap (esc pr)).toArray⟩ ∧ s6 = .int .i64 i ∧ i ≤ s.size ∧ gk = s.size - i)
  case atStart => exact ⟨rfl, 0, by simp, rfl, Nat.zero_le _, rfl⟩
  case round =>
    obtain ⟨rfl, i, rfl, rfl, hi, rfl⟩ := hrel
    by_cases hlt : i < s.size
    · have hj : (i : Int) < (s.size : Int) := by omega
      have HT := Lib.hid (escB_take (pr := pr) hlt)
      have hln := escs_len HQ.out.2 (by decide) (s.data.toList.take i)
      have hln2 : (⟨((s.data.toList.take i).flatMap (esc pr)).toArray⟩ : ByteArray).size ≤ 10000000 := by
        show (List.toArray _).size ≤ _
        rw [List.size_toArray]
        have : (s.data.toList.take i).length ≤ s.size := by rw [List.length_take, Array.length_toList]; exact Nat.min_le_right _ _
        omega
      have hex := ba_one s i hlt
      generalize hot : (⟨((s.data.toList.take i).flatMap (esc pr)).toArray⟩ : ByteArray) = ot at *
      have HOT := Lib.hid hot
      clear hi hln hot
      go_wp2_with fail
      go_loopg [7, 8] 5 (fun gk s7 s8 wx => w = wx ∧ ∃ j : Nat, s7 = .string ⟨#[s[i]]⟩ ∧ s8 = .int .i64 ((j : Int) * 2) ∧ j ≤ 5 ∧ gk = 5 - j ∧ Hid (∀ q (hq : q < pr.length), q < j → pr[q].1 ≠ s[i]))
      case atStart => exact ⟨rfl, 0, rfl, rfl, by decide, rfl, Lib.hid fun q _ h => absurd h (by omega)⟩
      case round =>
        obtain ⟨rfl, j, rfl, rfl, hj5, rfl, HJ⟩ := hrel
        by_cases hjl : j < 5
        · have hjp : j < pr.length := by rw [HQ.out.1]; exact hjl
          obtain ⟨hc0, hc1⟩ := HP.out j hjp
          by_cases he : pr[j].1 = s[i]
          · have hq : ((⟨#[pr[j].1]⟩ : ByteArray).toList == (⟨#[s[i]]⟩ : ByteArray).toList) = true := one_eq.2 he
            have HE := Lib.hid (esc_hit hjp he HJ.out)
            have h10 : (j : Int) * 2 + 1 < 10 := by omega
            have hp2 := HQ.out.2 pr[j] (List.getElem_mem hjp)
            have hcc : ¬ 9223372036854775807 < ot.size + (⟨(pr[j].2).toArray⟩ : ByteArray).size := by
              have h3 : (⟨(pr[j].2).toArray⟩ : ByteArray).size = pr[j].2.length := by show (List.toArray _).size = _; simp
              omega
            clear he hj5 hp2
            generalize hpj : (⟨#[pr[j].1]⟩ : ByteArray) = pj at *
            generalize hci : (⟨#[s[i]]⟩ : ByteArray) = ci at *
            clear hpj hci
            go_wp2_with fail
            go_roundg (s.size - (i + 1))
            case measure => omega
            case rel => exact ⟨rfl, i + 1, by rw [HT.out, HE.out], by go_num, by omega, rfl⟩
          · have hq : ((⟨#[pr[j].1]⟩ : ByteArray).toList == (⟨#[s[i]]⟩ : ByteArray).toList) = false := by
              rw [← Bool.not_eq_true, one_eq]
              exact he
            have HNE := Lib.hid (show ∀ q (hq : q < pr.length), q < j + 1 → pr[q].1 ≠ s[i] from fun q hq h => by
              rcases Nat.lt_or_ge q j with h1 | h1
              · exact HJ.out q hq h1
              · obtain rfl : q = j := by omega
                exact he)
            have h10 : (j : Int) * 2 + 1 < 10 := by omega
            clear he hj5
            generalize hpj : (⟨#[pr[j].1]⟩ : ByteArray) = pj at *
            generalize hci : (⟨#[s[i]]⟩ : ByteArray) = ci at *
            clear hpj hci
            go_wp2_with fail
            go_roundg (5 - (j + 1))
            case measure => omega
            case rel => exact ⟨rfl, j + 1, rfl, by congr 1; omega, by omega, rfl, HNE⟩
        · obtain rfl : j = 5 := by omega
          have HM := Lib.hid (esc_miss (c := s[i]) fun q hq => HJ.out q hq (by have := HQ.out.1; omega))
          have hcc : ¬ 9223372036854775807 < ot.size + (⟨#[s[i]]⟩ : ByteArray).size := by
            have h3 : (⟨#[s[i]]⟩ : ByteArray).size = 1 := rfl
            omega
          clear hjl hj5
          go_wp2_with fail
          go_roundg (s.size - (i + 1))
          case measure => omega
          case rel => exact ⟨rfl, i + 1, by rw [HT.out, HM.out], by go_num, by omega, rfl⟩
    · obtain rfl : i = s.size := by omega
      have htk : s.data.toList.take s.size = s.data.toList := List.take_of_length_le (by rw [Array.length_toList]; exact Nat.le_refl _)
      rw [htk]
      clear hi hlt
      go_wp2_with fail
      go_ret
      exact ⟨rfl, rfl⟩

set_option maxRecDepth 100000 in
theorem specString_any (x : RV) (v : Value) (w : World) (hg : x.Good) (hn : x.nodes ≤ 400) (hb : x.bytes ≤ 2000) (hr : x.Rep w v) : Calls Tryz.prog 52 #[v] w (Told 1 x.sText w) := by
  have HJ := Lib.hid (fun o => json_any x v (w.alloc o) hg hn hb (hr.below (one_below (w := w) o)))
  have HB := Lib.hid (fun o => one_below (w := w) o)
  obtain ⟨k, h, t, l, ks, vs⟩ := x
  unfold RV.Rep at hr
  obtain ⟨al, cl, ak, ck, av, cv, rfl, -, -, -, -, -, -, -, -, -⟩ := hr
  have hst : (RV.mk k h t l ks vs).sText = if k = 4 then t.data.toList else (RV.mk k h t l ks vs).txt := rfl
  rw [hst]
  unfold Told at HJ ⊢
  by_cases hk : k = 4
  · subst hk
    rw [if_pos rfl]
    clear hg hn hb HJ
    go_enter Tryz.func52, Tryz.ntmps52
    go_wp2_with fail
    go_ret2
    exact ⟨_, _, rfl, .inl ⟨rfl, rfl⟩, HB.out _⟩
  · rw [if_neg hk]
    have hk2 : (k == 4) = false := by simpa using hk
    clear hg hn hb hk
    go_enter Tryz.func52, Tryz.ntmps52
    go_wp2_with fail
    refine (HJ.out _).mono ?_
    rintro e w1 ⟨t', how, rfl, hh, hb⟩
    have HT := Lib.hid (And.intro hh ((HB.out _).trans (hb.mono (HB.out _).size)))
    clear hh hb
    go_wp2_with fail
    go_ret2
    exact ⟨_, _, rfl, HT.out.1, HT.out.2⟩
end Go.Proofs.YtjpcdbopioblaaaGreatDoor

/- The reference's Format walked at html. -/
namespace Go.Proofs.YtjpcdbopioblaaaGreatDoor
open Go.RowKit

def nmH : ByteArray := ⟨#[104, 116, 109, 108]⟩
theorem nm_list : nmH.toList = [104, 116, 109, 108] := by rw [ByteArray.toList_eq]; rfl
theorem noq_of {s : ByteArray} (h : ∀ q (hq : q < s.size), s[q] ≠ 39) : ∀ c ∈ s.data.toList, c ≠ 39 := by
  intro c hc
  obtain ⟨i, hi, rfl⟩ := List.getElem_of_mem hc
  exact h i (by simpa using hi)
/-- What Format gives: the text, or silence. -/
def FmtPost (x : RV) (w : World) (e : Ending) (w' : World) : Prop := ∃ (t : ByteArray) (how : Int), e = .returned (.tuple #[.string t, .int .i64 how]) ∧ ((how = 0 ∧ t = htmlOf x) ∨ how = 2) ∧ Below w.heap.size w w'
set_option maxRecDepth 100000 in
set_option maxHeartbeats 1600000 in
theorem format_any (x : RV) (v : Value) (w : World) (hg : x.Good) (hn : x.nodes ≤ 400) (hb : x.bytes ≤ 2000) (hr : x.Rep w v) : Calls Tryz.prog 41 #[.string nmH, v] w (FmtPost x w) := by
  have HS := Lib.hid (fun o => specString_any x v (w.alloc o) hg hn hb (hr.below (one_below (w := w) o)))
  have HB := Lib.hid (fun o => one_below (w := w) o)
  have hsz : (⟨x.sText.toArray⟩ : ByteArray).size ≤ 1000000 := by
    have := sText_len hg
    show (List.toArray _).size ≤ _
    rw [List.size_toArray]
    omega
  have HCH := Lib.hid (fun (b c : Nat) (wx : World) (hP : PairsAt wx b prS) => changed_any prS rfl (by decide) ⟨x.sText.toArray⟩ b c wx hP hsz)
  have HEQ : Hid (∀ s : ByteArray, s = ⟨x.sText.toArray⟩ → (∀ q (hq : q < s.size), s[q] ≠ 39) → (⟨((⟨x.sText.toArray⟩ : ByteArray).data.toList.flatMap (esc prS)).toArray⟩ : ByteArray) = htmlOf x) := Lib.hid fun s hs h => by
    subst hs
    rw [esc_same (noq_of h)]
    rfl
  obtain ⟨k, h, t, al, nl, cl, ak, nk, ck, av, nv, cv, rfl⟩ : ∃ k h t al nl cl ak nk ck av nv cv, v = .agg #[.int .i64 k, .int .i64 h, .string t, .slice al nl cl, .slice ak nk ck, .slice av nv cv] := by
    obtain ⟨k, h, t, l, ks, vs⟩ := x
    unfold RV.Rep at hr
    obtain ⟨al, cl, ak, ck, av, cv, rfl, -⟩ := hr
    exact ⟨_, _, _, _, _, _, _, _, _, _, _, _, rfl⟩
  have n1 : (nmH.toList == [99, 115, 118]) = false := by rw [nm_list]; decide
  have n2 : (nmH.toList == [116, 115, 118]) = false := by rw [nm_list]; decide
  have n3 : (nmH.toList == [115, 104]) = false := by rw [nm_list]; decide
  have n4 : (nmH.toList == [116, 101, 120, 116]) = false := by rw [nm_list]; decide
  have n5 : (nmH.toList == [106, 115, 111, 110]) = false := by rw [nm_list]; decide
  have n6 : (nmH.toList == [104, 116, 109, 108]) = true := by rw [nm_list]; decide
  clear hg hn hb hr
  unfold FmtPost
  unfold Told at HS
  generalize nmH = nm at *
  generalize htmlOf x = th at *
  generalize hs : (⟨x.sText.toArray⟩ : ByteArray) = s at *
  have HSE := Lib.hid hs
  clear hs
  go_enter Tryz.func41, Tryz.ntmps41
  go_wp2_with fail
  refine (HS.out _).mono ?_
  rintro e w1 ⟨t', how, rfl, hh, hb1⟩
  have HB1 := Lib.hid ((HB.out _).trans (hb1.mono (HB.out _).size))
  clear hb1
  rcases hh with ⟨rfl, hte⟩ | ⟨rfl, hsz2⟩
  · obtain rfl : t' = s := by first | exact hte | exact hte.trans HSE.out
    clear hte
    go_wp2_with fail
    go_loopg [9] t'.size (fun gk s9 wr => w1 = wr ∧ ∃ i : Nat, s9 = .int .i64 i ∧ i ≤ t'.size ∧ gk = t'.size - i ∧ Hid (∀ q (hq : q < t'.size), q < i → t'[q] ≠ 39))
    case atStart => exact ⟨rfl, 0, rfl, Nat.zero_le _, rfl, Lib.hid fun q _ h => absurd h (by omega)⟩
    case round =>
      obtain ⟨rfl, i, rfl, hi, rfl, HN⟩ := hrel
      by_cases hlt : i < t'.size
      · have hj : (i : Int) < (t'.size : Int) := by omega
        by_cases h39 : t'[i].toNat = 39
        · clear hi
          go_wp2_with fail
          go_ret2
          exact ⟨_, _, rfl, .inr rfl, HB1.out⟩
        · have e39 : ((t'[i].toNat : Int) == 39) = false := by simp; omega
          have HN2 := Lib.hid (show ∀ q (hq : q < t'.size), q < i + 1 → t'[q] ≠ 39 from fun q hq h => by
            rcases Nat.lt_or_ge q i with h1 | h1
            · exact HN.out q hq h1
            · obtain rfl : q = i := by omega
              intro e
              exact h39 (by rw [e]; rfl))
          clear hi h39
          go_wp2_with fail
          go_roundg (t'.size - (i + 1))
          case measure => omega
          case rel => exact ⟨rfl, i + 1, by go_num, by omega, rfl, HN2⟩
      · obtain rfl : i = t'.size := by omega
        have HTH := Lib.hid (HEQ.out t' rfl fun q hq => HN.out q hq hq)
        clear hi hlt
        go_wp2_with fail
        refine (HCH.out _ _ _ (pairs_built (heap_alloc_new w1 _) rfl)).mono ?_
        rintro e w2 ⟨rfl, rfl⟩
        have HB2 := Lib.hid (fun o => HB1.out.alloc HB1.out.size o)
        go_wp2_with fail
        go_ret2
        exact ⟨_, _, rfl, .inl ⟨rfl, HTH.out⟩, HB2.out _⟩
  · go_wp2_with fail
    go_ret2
    exact ⟨_, _, rfl, .inr rfl, HB1.out⟩
end Go.Proofs.YtjpcdbopioblaaaGreatDoor

/- laws.FnFormatHTML walked. -/
namespace Go.Proofs.YtjpcdbopioblaaaGreatDoor
open Go.RowKit

/-- Good, and small. -/
def SmallH (x : RV) : Prop := x.Good ∧ x.nodes ≤ 400 ∧ x.bytes ≤ 2000
theorem cells_of {x : RV} {w : World} {v : Value} (hr : x.Rep w v) : ∃ k h t al nl cl ak nk ck av nv cv, v = .agg #[.int .i64 k, .int .i64 h, .string t, .slice al nl cl, .slice ak nk ck, .slice av nv cv] ∧ x.kd = k ∧ t.size ≤ reachN := by
  obtain ⟨k, h, t, l, ks, vs⟩ := x
  unfold RV.Rep at hr
  obtain ⟨al, cl, ak, ck, av, cv, rfl, -, -, ht, -⟩ := hr
  exact ⟨_, _, _, _, _, _, _, _, _, _, _, _, rfl, rfl, ht⟩
set_option maxRecDepth 100000 in
set_option maxHeartbeats 800000 in
theorem fine_one (x : RV) (b c : Nat) (w : World) (hT : Tabs w) (hr : RV.RepL w (some ⟨b, 0, none⟩) 0 [x]) :
    Calls Tryz.prog 16 #[.slice (some ⟨b, 0, none⟩) 1 c] w fun e w' => ∃ r, e = .returned (.bool r) ∧ Below w.heap.size w w' ∧ (r = true → SmallH x) := by
  obtain ⟨ab, ao, x0, x1, x2, x3, x4, x5, e, g0, g1, g2, g3, g4, g5, hra⟩ := hr.get 0 (by simp)
  injection e with e
  injection e with e1 e2
  subst e1 e2
  simp only [Nat.zero_add, Nat.zero_mul, List.getElem_cons_zero] at g0 g1 g2 g3 g4 g5 hra
  obtain ⟨k, h, t, al, nl, cl, ak, nk, ck, av, nv, cv, rfl, rfl, rfl, rfl, rfl, rfl⟩ := hra.shape
  have hts : t.size ≤ reachN := by
    obtain ⟨_, _, _, _, _, _, _, _, _, _, _, _, e, _, ht⟩ := cells_of hra
    simp only [Value.agg.injEq, Array.mk.injEq, List.cons.injEq, Value.string.injEq] at e
    rw [e.2.2.1]
    exact ht
  unfold reachN at hts
  have HF := Lib.hid (fun wx (hb : Below w.heap.size w wx) => fit_any x _ wx (hT.below hb) (hra.below hb))
  clear hr hra hT
  go_enter Tryz.func16, Tryz.ntmps16
  go_wp2_with fail
  go_loopg [3] 1 (fun gk s3 wr => (w = wr ∧ s3 = .int .i64 0 ∧ gk = 1) ∨ (∃ i : Int, s3 = .int .i64 1 ∧ gk = 0 ∧ Hid (Below w.heap.size w wr ∧ SmallH x)))
  case atStart => exact .inl ⟨rfl, rfl, rfl⟩
  case round =>
    rcases hrel with ⟨rfl, rfl, rfl⟩ | ⟨_, rfl, rfl, HS⟩
    · by_cases hbig : (4096 : Int) < (t.size : Int)
      · go_wp2_with fail
        go_ret
        exact ⟨_, rfl, Below.refl _ _, fun h => by cases h⟩
      · go_wp2_with fail
        refine (HF.out _ (Below.refl _ _)).mono ?_
        rintro e w1 ⟨r, rfl, hb1, hq⟩
        have HQ := Lib.hid (And.intro hb1 hq)
        clear hb1 hq
        cases r
        · go_wp2_with fail
          go_ret
          exact ⟨_, rfl, HQ.out.1, fun h => by cases h⟩
        · go_wp2_with fail
          go_roundg 0
          case measure => omega
          case rel => exact .inr ⟨0, rfl, rfl, Lib.hid ⟨HQ.out.1, HQ.out.2 (by trivial)⟩⟩
    · go_wp2_with fail
      go_ret
      exact ⟨_, rfl, HS.out.1, fun _ => HS.out.2⟩
set_option maxRecDepth 100000 in
set_option maxHeartbeats 800000 in
theorem told_html (t t' : ByteArray) (how : Int) (al ak av : Option Addr) (n cl m ck q cv : Nat) (w : World) (h : (how = 0 ∧ t' = t) ∨ how = 2) :
    Calls Tryz.prog 10 #[.agg #[.int .i64 4, .int .i64 0, .string t, .slice al n cl, .slice ak m ck, .slice av q cv, .int .i64 0], .agg #[.int .i64 4, .int .i64 0, .string t', .slice none 0 0, .slice none 0 0, .slice none 0 0], .int .i64 how] w fun e w' => e = .returned (.bool true) ∧ Below w.heap.size w w' := by
  have HB := Lib.hid (fun o o' => ((Below.refl w.heap.size w).alloc (Nat.le_refl _) o).alloc (by simp) o')
  rcases h with ⟨rfl, rfl⟩ | rfl
  · have HS := Lib.hid (fun wx => same_text t' al ak av none none none n cl m ck q cv 0 0 0 0 0 0 wx)
    go_enter Tryz.func10, Tryz.ntmps10
    go_wp2_with fail
    refine (HS.out _).mono ?_
    rintro e w1 ⟨rfl, hb⟩
    have HB1 := Lib.hid ((HB.out _ _).trans (hb.mono (HB.out _ _).size))
    clear hb
    go_wp2_with fail
    go_ret
    exact ⟨rfl, HB1.out⟩
  · go_enter Tryz.func10, Tryz.ntmps10
    go_wp2_with fail
    go_ret
    exact ⟨rfl, HB.out _ _⟩
theorem two_belowH {w : World} (o o' : Obj) : Below w.heap.size w ((w.alloc o).alloc o') := ((Below.refl w.heap.size w).alloc (Nat.le_refl _) o).alloc (by simp) o'
set_option maxRecDepth 100000 in
set_option maxHeartbeats 3200000 in
theorem formatted_any (x : RV) (v r : Value) (w : World) (hs : SmallH x) (hr : x.Rep w v) (hres : ResIs (tx4 (htmlOf x)) w r) :
    Calls Tryz.prog 17 #[r, .string nmH, v] w fun e w' => e = .returned (.bool true) ∧ Below w.heap.size w w' := by
  have HF := Lib.hid (fun wx (hw : Below w.heap.size w wx) => format_any x v wx hs.1 hs.2.1 hs.2.2 (hr.below hw))
  have HC := Lib.hid (fun wx (hw : Below w.heap.size w wx) => control_any x v wx hs.1 hs.2.1 (hr.below hw))
  have HB := Lib.hid (fun o o' => two_belowH (w := w) o o')
  obtain ⟨al, n, cl, ak, m, ck, av, q, cv, rfl⟩ := hres.text
  obtain ⟨k, h, t, al2, nl2, cl2, ak2, nk2, ck2, av2, nv2, cv2, rfl, -, -⟩ := cells_of hr
  have n1 : (nmH.toList == [99, 115, 118]) = false := by rw [nm_list]; decide
  have n2 : (nmH.toList == [116, 115, 118]) = false := by rw [nm_list]; decide
  have n3 : (nmH.toList == [115, 104]) = false := by rw [nm_list]; decide
  clear hs hr hres
  unfold FmtPost at HF
  unfold BoolPost at HC
  generalize nmH = nm at *
  generalize htmlOf x = th at *
  go_enter Tryz.func17, Tryz.ntmps17
  go_wp2_with fail
  refine (HF.out _ (HB.out _ _)).mono ?_
  rintro e w1 ⟨t', how, rfl, hh, hb1⟩
  have HH := Lib.hid hh
  have HB1 := Lib.hid ((HB.out _ _).trans (hb1.mono (HB.out _ _).size))
  obtain ⟨hc', -⟩ := bcell hb1
  have hz := hb1.size
  simp at hz
  have hy : w.heap.size + 1 < w1.heap.size := by omega
  have ha1 := fun o => hc' w.heap.size o (by first | (simp; done) | (simp; omega))
  have hb1' := fun o => hc' (w.heap.size + 1) o (by first | (simp; done) | (simp; omega))
  clear hc' hz hb1 hh
  by_cases hk : k = 4
  · subst hk
    go_wp2_with fail
    have HBD := Lib.hid (show Below w.heap.size w w1.drew from HB1.out.drew)
    go_region_held3 (fun W => W.cell? ⟨w.heap.size, 0, none⟩ = some (.int .i64 4) ∧ W.cell? ⟨w.heap.size, 1, none⟩ = some (.int .i64 0) ∧ W.cell? ⟨w.heap.size, 2, none⟩ = some (.string th) ∧ W.cell? ⟨w.heap.size, 3, none⟩ = some (.slice al n cl) ∧ W.cell? ⟨w.heap.size, 4, none⟩ = some (.slice ak m ck) ∧ W.cell? ⟨w.heap.size, 5, none⟩ = some (.slice av q cv) ∧ W.cell? ⟨w.heap.size, 6, none⟩ = some (.int .i64 0)) (go_keep) (first
      | (go_at_call 22; refine (str_c t' _).mono ?_; rintro e w5 ⟨rfl, hb5⟩; have HB5 := Lib.hid (HBD.out.trans (hb5.mono HBD.out.size)); obtain ⟨hc5', -⟩ := bcell hb5; have hc5 := fun o => hc5' w.heap.size o (by show w.heap.size < w1.heap.size; omega); have hl5 : w.heap.size < w5.heap.size := Nat.lt_of_lt_of_le (by show w.heap.size < w1.heap.size; omega) hb5.size; clear hc5' hb5)
      | (go_at_call 10; refine (told_html th t' how al ak av n cl m ck q cv _ HH.out).mono ?_; rintro e w6 ⟨rfl, hb6⟩; have HB6 := Lib.hid (HB5.out.trans (hb6.mono HB5.out.size)); obtain ⟨hc6', -⟩ := bcell hb6; have hc6 := fun o => hc6' w.heap.size o hl5; clear hc6' hb6))
    go_wp2_with fail
    go_ret
    exact ⟨rfl, HB6.out⟩
  · have hk2 : (k != 4) = true := by simpa using hk
    clear hk
    go_wp2_with fail
    refine (HC.out _ HB1.out).mono ?_
    rintro e w2 ⟨⟨bb, rfl⟩, hb2⟩
    have HB2 := Lib.hid (HB1.out.trans (hb2.mono HB1.out.size))
    obtain ⟨hc', -⟩ := bcell hb2
    have ha2 := fun o => hc' w.heap.size o (by omega)
    have hy2 : w.heap.size + 1 < w2.heap.size := Nat.lt_of_lt_of_le hy hb2.size
    clear hc' hb2
    cases bb
    · go_wp2_with fail
      have HBD := Lib.hid (show Below w.heap.size w w2.drew from HB2.out.drew)
      go_region_held3 (fun W => W.cell? ⟨w.heap.size, 0, none⟩ = some (.int .i64 4) ∧ W.cell? ⟨w.heap.size, 1, none⟩ = some (.int .i64 0) ∧ W.cell? ⟨w.heap.size, 2, none⟩ = some (.string th) ∧ W.cell? ⟨w.heap.size, 3, none⟩ = some (.slice al n cl) ∧ W.cell? ⟨w.heap.size, 4, none⟩ = some (.slice ak m ck) ∧ W.cell? ⟨w.heap.size, 5, none⟩ = some (.slice av q cv) ∧ W.cell? ⟨w.heap.size, 6, none⟩ = some (.int .i64 0)) (go_keep) (first
      | (go_at_call 22; refine (str_c t' _).mono ?_; rintro e w5 ⟨rfl, hb5⟩; have HB5 := Lib.hid (HBD.out.trans (hb5.mono HBD.out.size)); obtain ⟨hc5', -⟩ := bcell hb5; have hc5 := fun o => hc5' w.heap.size o (by show w.heap.size < w2.heap.size; omega); have hl5 : w.heap.size < w5.heap.size := Nat.lt_of_lt_of_le (by show w.heap.size < w2.heap.size; omega) hb5.size; clear hc5' hb5)
      | (go_at_call 10; refine (told_html th t' how al ak av n cl m ck q cv _ HH.out).mono ?_; rintro e w6 ⟨rfl, hb6⟩; have HB6 := Lib.hid (HB5.out.trans (hb6.mono HB5.out.size)); obtain ⟨hc6', -⟩ := bcell hb6; have hc6 := fun o => hc6' w.heap.size o hl5; clear hc6' hb6))
      go_wp2_with fail
      go_ret
      exact ⟨rfl, HB6.out⟩
    · go_wp2_with fail
      go_ret
      exact ⟨rfl, HB2.out⟩
--LAW
set_option maxRecDepth 100000 in
set_option maxHeartbeats 6400000 in
theorem fnFormatHTML_law_at {x : RV} {v : Value} {w : World} (hr : x.Rep w v) (hT : Tabs w) :
    Calls Tryz.prog 5 #[v] w fun e w' => e = .returned (.bool true) ∧ Below w.heap.size w w' := by
  have HZ := Lib.hid (fun wx (hw : Below w.heap.size w wx) => fits1_any x v wx (hr.below hw))
  have HFM := Lib.hid (fun wx (hw : Below w.heap.size w wx) (hs : SmallH x) => implFormatHTML_any x v wx hs.1 hs.2.1 hs.2.2 (hr.below hw) (hT.below hw))
  have HFT := Lib.hid (fun (r : Value) wx (hw : Below w.heap.size w wx) (hs : SmallH x) (hres : ResIs (tx4 (htmlOf x)) wx r) => formatted_any x v r wx hs (hr.below hw) hres)
  have HFN := Lib.hid (fun (b c : Nat) wx (hw : Below w.heap.size w wx) (h : RV.RepL wx (some ⟨b, 0, none⟩) 0 [x]) => fine_one x b c wx (hT.below hw) h)
  obtain ⟨k, h, t, al, nl, cl, ak, nk, ck, av, nv, cv, rfl, -, -⟩ := cells_of hr
  have HRL : Hid (∀ wx, Below w.heap.size w wx → RV.RepL (wx.alloc (.cells #[.int .i64 k, .int .i64 h, .string t, .slice al nl cl, .slice ak nk ck, .slice av nv cv] 27)) (some ⟨wx.heap.size, 0, none⟩) 0 [x]) := Lib.hid fun wx hw => by
    have hb2 := hw.alloc hw.size (.cells #[.int .i64 k, .int .i64 h, .string t, .slice al nl cl, .slice ak nk ck, .slice av nv cv] 27)
    refine RV.RepL.of [x] 0 fun j hj => ?_
    match j, hj with
    | 0, _ => exact ⟨_, _, _, _, _, _, by simp, by simp, by simp, by simp, by simp, by simp, hr.below hb2⟩
  have HBO := Lib.hid (fun o => below_one (w := w) o)
  clear hr hT
  go_enter Tryz.func5, Tryz.ntmps5
  go_wp2_with fail
  refine (HZ.out _ (HBO.out _)).mono ?_
  rintro e w1 ⟨⟨bf, rfl⟩, hb1⟩
  have HB1 := Lib.hid ((HBO.out _).trans (hb1.mono (HBO.out _).size))
  obtain ⟨hc', -⟩ := bcell hb1
  have hz1 := hb1.size
  simp at hz1
  have hy1 : w.heap.size < w1.heap.size := by omega
  have ha1 := fun o => hc' w.heap.size o (by simp)
  clear hc' hz1 hb1
  cases bf
  · go_wp2_with fail
    go_ret
    exact ⟨rfl, HB1.out⟩
  · go_wp2_with fail
    refine wp_region_any (by kernel_rfl) ?_
    change wpAny _ _ _ _ _ _ _ (World.drew _)
    refine wpAny_ready (rs := [0]) (by kernel_rfl) (by simp) ?_
    refine AllReady.cons rfl (fun K hK => ?_) AllReady.nil
    go_simp
    refine hK _ _ ?_; clear hK K
    refine wpAny_ready (rs := [1]) (by kernel_rfl) (by simp) ?_
    refine AllReady.cons rfl (fun K hK => ?_) AllReady.nil
    go_simp
    refine hK _ _ ?_; clear hK K
    refine wpAny_ready (rs := [2]) (by kernel_rfl) (by simp) ?_
    refine AllReady.cons rfl (fun K hK => ?_) AllReady.nil
    go_simp
    have hb2 : Below w.heap.size w (World.drew (w1.alloc (.cells #[.int .i64 k, .int .i64 h, .string t, .slice al nl cl, .slice ak nk ck, .slice av nv cv] 27))) := (HB1.out.alloc HB1.out.size _).drew
    refine (HFN.out w1.heap.size 1 _ hb2 (RV.RepL.below ((Below.refl _ _).drew) (HRL.out w1 HB1.out))).mono ?_
    rintro e w3 ⟨r, rfl, hb3, hq⟩
    have HB3 := Lib.hid (hb2.trans (hb3.mono hb2.size))
    have HQ := Lib.hid hq
    obtain ⟨hc', -⟩ := bcell hb3
    have hz3 := hb3.size
    simp [World.drew] at hz3
    have hy3 : w.heap.size < w3.heap.size := by omega
    have hc3 := fun o => (hc' w.heap.size o (by simp [World.drew]; omega)).trans (show (World.drew (w1.alloc (.cells #[.int .i64 k, .int .i64 h, .string t, .slice al nl cl, .slice ak nk ck, .slice av nv cv] 27))).cell? ⟨w.heap.size, o, none⟩ = w1.cell? ⟨w.heap.size, o, none⟩ from World.cell?_alloc_lt _ _ _ (show w.heap.size < w1.heap.size from hy1))
    clear hc' hz3 hb3 hq hb2
    refine hK _ _ ?_; clear hK K
    cases r
    · iterate 10 (all_goals (try (
        (first | (refine wpAny_ready (rs := [3]) (by decide +kernel) (by simp) ?_; refine (AllReady.cons rfl (fun K hK => ?_) AllReady.nil)) | (refine wpAny_ready (rs := [4]) (by decide +kernel) (by simp) ?_; refine (AllReady.cons rfl (fun K hK => ?_) AllReady.nil)) | (refine wpAny_ready (rs := [5, 7]) (by decide +kernel) (by simp) ?_; refine (AllReady.cons rfl (fun K hK => ?_) (AllReady.cons rfl (fun K hK => ?_) AllReady.nil))) | (refine wpAny_ready (rs := [6, 7]) (by decide +kernel) (by simp) ?_; refine (AllReady.cons rfl (fun K hK => ?_) (AllReady.cons rfl (fun K hK => ?_) AllReady.nil))) | (refine wpAny_ready (rs := [5]) (by decide +kernel) (by simp) ?_; refine (AllReady.cons rfl (fun K hK => ?_) AllReady.nil)) | (refine wpAny_ready (rs := [6]) (by decide +kernel) (by simp) ?_; refine (AllReady.cons rfl (fun K hK => ?_) AllReady.nil)) | (refine wpAny_ready (rs := [7]) (by decide +kernel) (by simp) ?_; refine (AllReady.cons rfl (fun K hK => ?_) AllReady.nil)) | (refine wpAny_ready (rs := [8]) (by decide +kernel) (by simp) ?_; refine (AllReady.cons rfl (fun K hK => ?_) AllReady.nil)) | (refine wpAny_ready (rs := [9]) (by decide +kernel) (by simp) ?_; refine (AllReady.cons rfl (fun K hK => ?_) AllReady.nil)) | (refine wpAny_ready (rs := [10]) (by decide +kernel) (by simp) ?_; refine (AllReady.cons rfl (fun K hK => ?_) AllReady.nil)) | (refine wpAny_ready (rs := [5, 6, 7, 8]) (by decide +kernel) (by simp) ?_; refine (AllReady.cons rfl (fun K hK => ?_) (AllReady.cons rfl (fun K hK => ?_) (AllReady.cons rfl (fun K hK => ?_) (AllReady.cons rfl (fun K hK => ?_) AllReady.nil))))) | (refine wpAny_ready (rs := [6, 7, 8]) (by decide +kernel) (by simp) ?_; refine (AllReady.cons rfl (fun K hK => ?_) (AllReady.cons rfl (fun K hK => ?_) (AllReady.cons rfl (fun K hK => ?_) AllReady.nil)))) | (refine wpAny_ready (rs := [7, 8]) (by decide +kernel) (by simp) ?_; refine (AllReady.cons rfl (fun K hK => ?_) (AllReady.cons rfl (fun K hK => ?_) AllReady.nil)))) <;> go_simp <;> (try go_wp2_with (fail)) <;> (try (refine hK _ _ ?_; clear hK K)))))
      all_goals refine wpAny_done (by kernel_rfl) ?_ _
      all_goals go_wp2_with fail
      all_goals go_ret
      all_goals exact ⟨rfl, HB3.out⟩
    · have HG := Lib.hid (HQ.out (by trivial))
      iterate 10 (all_goals (try (
        (first | (refine wpAny_ready (rs := [3]) (by decide +kernel) (by simp) ?_; refine (AllReady.cons rfl (fun K hK => ?_) AllReady.nil)) | (refine wpAny_ready (rs := [4]) (by decide +kernel) (by simp) ?_; refine (AllReady.cons rfl (fun K hK => ?_) AllReady.nil)) | (refine wpAny_ready (rs := [5, 7]) (by decide +kernel) (by simp) ?_; refine (AllReady.cons rfl (fun K hK => ?_) (AllReady.cons rfl (fun K hK => ?_) AllReady.nil))) | (refine wpAny_ready (rs := [6, 7]) (by decide +kernel) (by simp) ?_; refine (AllReady.cons rfl (fun K hK => ?_) (AllReady.cons rfl (fun K hK => ?_) AllReady.nil))) | (refine wpAny_ready (rs := [5]) (by decide +kernel) (by simp) ?_; refine (AllReady.cons rfl (fun K hK => ?_) AllReady.nil)) | (refine wpAny_ready (rs := [6]) (by decide +kernel) (by simp) ?_; refine (AllReady.cons rfl (fun K hK => ?_) AllReady.nil)) | (refine wpAny_ready (rs := [7]) (by decide +kernel) (by simp) ?_; refine (AllReady.cons rfl (fun K hK => ?_) AllReady.nil)) | (refine wpAny_ready (rs := [8]) (by decide +kernel) (by simp) ?_; refine (AllReady.cons rfl (fun K hK => ?_) AllReady.nil)) | (refine wpAny_ready (rs := [9]) (by decide +kernel) (by simp) ?_; refine (AllReady.cons rfl (fun K hK => ?_) AllReady.nil)) | (refine wpAny_ready (rs := [10]) (by decide +kernel) (by simp) ?_; refine (AllReady.cons rfl (fun K hK => ?_) AllReady.nil))) <;> go_simp <;> (try go_wp2_with (first | (go_at_call 18; refine (HFM.out _ HB3.out HG.out).mono ?_; rintro e w4 ⟨r, rfl, hres, hb4⟩; have HRS := Lib.hid hres.is; have HB4 := Lib.hid (HB3.out.trans (hb4.mono HB3.out.size)); obtain ⟨hc4', -⟩ := bcell hb4; have hc4 := fun o => hc4' w.heap.size o hy3; clear hc4' hres hb4) | (go_at_call 17; refine (HFT.out _ _ HB4.out HG.out HRS.out).mono ?_; rintro e w5 ⟨rfl, hb5⟩; have HB5 := Lib.hid (HB4.out.trans (hb5.mono HB4.out.size)); clear hb5))) <;> (try (refine hK _ _ ?_; clear hK K)))))
      all_goals refine wpAny_done (by kernel_rfl) ?_ _
      all_goals go_wp2_with fail
      all_goals go_ret
      all_goals exact ⟨rfl, HB5.out⟩
end Go.Proofs.YtjpcdbopioblaaaGreatDoor
