/- Texts of this proof laid together by a program: EncKV, SortKV, ToGo, Same, Apart. -/
import Derived.Test.YtjpcdbopioblaaaGreatDoorMa2
import Derived.Test.YtjpcdbopioblaaaGreatDoorMa3
import Derived.Test.YtjpcdbopioblaaaGreatDoorMa4
import Derived.Test.YtjpcdbopioblaaaGreatDoorMa5
import Derived.Test.YtjpcdbopioblaaaGreatDoorMa7
import Derived.Sort.LotA
import Derived.Shelf.SlSortFuncK.WholeK
import Derived.Shelf.GgSortFunc.Tiny
import Derived.Deep.QuietTactic
/- A map's entries laid into a row of pairs and sorted by their keys: plain. -/
namespace Go.Proofs.YtjpcdbopioblaaaGreatDoor
open Go.RowKit Go.WideMaps Go.Maps

abbrev KV := ByteArray × Value
/-- By the key. -/
def ltKV (a b : KV) : Bool := Op.bytesLess a.1.toList b.1.toList
/-- Entries so far, and those to come. -/
def KVInv (ks : List ByteArray) (xs : List Value) (left : Lit → Bool) (E : List KV) : Prop :=
  ∃ R : List KV, (E ++ R).Perm (ks.zip xs) ∧ ∀ k ∈ ks, (left (kS k) = true ↔ k ∈ R.map Prod.fst)
theorem zip_fst {ks : List ByteArray} {xs : List Value} (h : xs.length = ks.length) : (ks.zip xs).map Prod.fst = ks := by
  rw [List.map_fst_zip]
  omega
theorem KVInv.start {ks : List ByteArray} {xs : List Value} (h : xs.length = ks.length) : KVInv ks xs (Maps.has (mapD ks xs)) [] :=
  ⟨ks.zip xs, List.Perm.refl _, fun k hk => ⟨fun _ => by rw [zip_fst h]; exact hk, fun _ => (has_mapD_key h k).2 hk⟩⟩
theorem KVInv.step {ks : List ByteArray} {xs : List Value} {left : Lit → Bool} {E : List KV} {key : ByteArray} {c : Value} (h : KVInv ks xs left E) (hu : KeysUp ks) (hx : xs.length = ks.length) (hk : key ∈ ks) (hl : left (kS key) = true) (hc : ∀ z, (mapD ks xs).atKey (kS key) z = .held c) :
    KVInv ks xs (fun q => left q && !q.sameKey (kS key)) (E ++ [(key, c)]) := by
  obtain ⟨R, hp, hR⟩ := h
  obtain ⟨⟨k', c'⟩, hm, e⟩ := List.mem_map.1 ((hR key hk).1 hl)
  subst e
  have hz : (k', c') ∈ ks.zip xs := hp.subset (List.mem_append_right _ hm)
  obtain ⟨i, hi, e⟩ := List.getElem_of_mem hz
  have hik : i < ks.length := by simp at hi; omega
  have hix : i < xs.length := by omega
  rw [List.getElem_zip] at e
  injection e with e1 e2
  have h1 := mapD_get ks xs hx hu i hik hix .nil
  have h2 := hc .nil
  unfold kS at h2
  rw [e1] at h1
  rw [h1] at h2
  injection h2 with h2
  have e3 : c' = c := by rw [← e2, h2]
  subst e3
  obtain ⟨R1, R2, rfl⟩ := List.append_of_mem hm
  have hnd : ((E ++ (R1 ++ (k', c') :: R2)).map Prod.fst).Nodup := by
    rw [(hp.map Prod.fst).nodup_iff, zip_fst hx]
    exact hu.nodup
  have hno : k' ∉ (R1 ++ R2).map Prod.fst := by
    rw [List.map_append, List.nodup_append] at hnd
    have h3 := hnd.2.1
    rw [List.map_append, List.map_cons] at h3
    rw [List.map_append]
    intro h4
    have h5 := (List.perm_middle (a := k') (l₁ := R1.map Prod.fst) (l₂ := R2.map Prod.fst)).nodup_iff.1 h3
    exact (List.nodup_cons.1 h5).1 h4
  refine ⟨R1 ++ R2, ?_, fun k hk' => ?_⟩
  · refine List.Perm.trans ?_ hp
    rw [List.append_assoc, List.singleton_append]
    exact (List.perm_middle.symm).append_left E
  · rw [Bool.and_eq_true, hR k hk']
    have hs : ((!(kS k).sameKey (kS k')) = true) ↔ k ≠ k' := by
      constructor
      · rintro h e
        rw [e, WideAt.sameKey_self (kS_key k')] at h
        cases h
      · intro h
        rw [Maps.sameKey_ne fun e => h (kS_inj e)]
        rfl
    rw [hs]
    constructor
    · rintro ⟨h6, h7⟩
      rw [List.map_append, List.map_cons, List.mem_append, List.mem_cons] at h6
      rw [List.map_append, List.mem_append]
      rcases h6 with h6 | h6 | h6
      · exact .inl h6
      · exact absurd h6 h7
      · exact .inr h6
    · intro h6
      refine ⟨?_, fun e => hno (e ▸ h6)⟩
      rw [List.map_append, List.mem_append] at h6
      rw [List.map_append, List.map_cons, List.mem_append, List.mem_cons]
      rcases h6 with h6 | h6
      · exact .inl h6
      · exact .inr (.inr h6)
theorem KVInv.done {ks : List ByteArray} {xs : List Value} {left : Lit → Bool} {E : List KV} (h : KVInv ks xs left E) (hx : xs.length = ks.length) (hl : ∀ k, left k = false) : E.Perm (ks.zip xs) := by
  obtain ⟨R, hp, hR⟩ := h
  cases R with
  | nil => simpa using hp
  | cons p R =>
    have hz : p.1 ∈ ks := by
      rw [← zip_fst hx]
      exact List.mem_map_of_mem (hp.subset (by simp))
    have := (hR p.1 hz).2 (by simp)
    rw [hl] at this
    cases this
theorem sorted_unique_KV : ∀ {l m : List KV}, l.Perm m → l.Pairwise (fun a b => ltKV b a = false) → m.Pairwise (fun a b => ltKV a b = true) → l = m
  | l, [], hp, _, _ => hp.eq_nil
  | [], b :: m, hp, _, _ => absurd hp.symm.eq_nil (by simp)
  | a :: l, b :: m, hp, hl, hm => by
    have hab : a = b := by
      have h1 : a ∈ b :: m := hp.subset (by simp)
      have h2 : b ∈ a :: l := hp.symm.subset (by simp)
      rcases List.mem_cons.1 h1 with e | h1
      · exact e
      · rcases List.mem_cons.1 h2 with e | h2
        · exact e.symm
        · have h3 := (List.pairwise_cons.1 hm).1 a h1
          have h4 := (List.pairwise_cons.1 hl).1 b h2
          rw [h3] at h4
          cases h4
    subst hab
    rw [sorted_unique_KV hp.cons_inv (List.pairwise_cons.1 hl).2 (List.pairwise_cons.1 hm).2]
theorem zip_up {ks : List ByteArray} {xs : List Value} (hu : KeysUp ks) (hx : xs.length = ks.length) : (ks.zip xs).Pairwise (fun a b => ltKV a b = true) := by
  refine List.pairwise_iff_getElem.2 fun i j hi hj hij => ?_
  simp only [List.length_zip] at hi hj
  rw [List.getElem_zip, List.getElem_zip]
  exact hu.lt' hij (by omega)
/-- The sorted row is the map's own order. -/
theorem sorted_is_zip {ks : List ByteArray} {xs : List Value} {E : List KV} {d' : Array KV} (hu : KeysUp ks) (hx : xs.length = ks.length) (hE : E.Perm (ks.zip xs)) (hp : Sort.PermIn 0 E.toArray.size E.toArray d') (hs : Sort.SortedIn ltKV 0 E.toArray.size d') : d'.toList = ks.zip xs := by
  obtain ⟨hsz, -, hpp⟩ := hp
  have e1 : (E.toArray.extract 0 E.toArray.size).toList = E := by simp
  have e2 : (d'.extract 0 E.toArray.size).toList = d'.toList := by rw [← hsz]; simp
  rw [e1, e2] at hpp
  refine sorted_unique_KV (hpp.trans hE) (List.pairwise_iff_getElem.2 fun i j hi hj hij => ?_) (zip_up hu hx)
  have hi' : i < d'.size := by simpa using hi
  have hj' : j < d'.size := by simpa using hj
  have := hs i j (Nat.zero_le _) hij (by rw [← hsz]; exact hj')
  rw [getElem!_pos d' j hj', getElem!_pos d' i hi'] at this
  simpa using this
theorem swo_ltKV : Sort.SWO ltKV where
  irrefl := fun x => less_irrefl _
  trans := fun x y z h1 h2 => less_trans _ _ _ h1 h2
  ntrans := fun x y z h1 h2 => by
    unfold ltKV at *
    cases h3 : Op.bytesLess x.1.toList z.1.toList
    · rfl
    · by_cases e : x.1.toList = y.1.toList
      · rw [← e, h3] at h2
        cases h2
      · rcases less_total _ _ e with h4 | h4
        · rw [h1] at h4
          cases h4
        · rw [less_trans _ _ _ h4 h3] at h2
          cases h2
end Go.Proofs.YtjpcdbopioblaaaGreatDoor

/- The pairs sorted by their keys: the encoder's own call of sort.Slice. -/
namespace Go.Proofs.YtjpcdbopioblaaaGreatDoor
open Go.RowKit

/-- A pair's two cells. -/
def oneV (v : Value) : Value := if v.oneCell' = true then v else .nilIface
theorem oneV_one (v : Value) : (oneV v).oneCell' = true := by
  unfold oneV
  split
  · assumption
  · rfl
theorem oneV_self {v : Value} (h : v.oneCell' = true) : oneV v = v := if_pos h
def encKV (p : KV) : List Value := [.string p.1, oneV p.2]
noncomputable def kvT : TypeInfo := (Tryz.prog.info? 185).get (by kernel_rfl)
noncomputable def kvE : TypeInfo := (Tryz.prog.info? 187).get (by kernel_rfl)
theorem kvK (n : Nat) (h2 : 2 ≤ n) : Lib.swapperK n kvE 25 = 9 := by
  have a : kvE.hasPointers = true := by kernel_rfl
  have b : kvE.bytes = 32 := by kernel_rfl
  have c : (n == 0) = false := by simp; omega
  have d : (n == 1) = false := by simp; omega
  simp [Lib.swapperK, a, b, c, d]

set_option maxRecDepth 100000 in
set_option maxHeartbeats 2000000 in
/-- The closure: it reads the boxed row and two keys. -/
theorem less_kv (blk off c Bs size : Nat) (W : World) (G : Nat → ByteArray) (hs : W.cell? ⟨Bs, 0, none⟩ = some (.slice (some ⟨blk, off, none⟩) size c))
    (hc : ∀ t, t < size → W.cell? ⟨blk, off + t * 2, none⟩ = some (.string (G t))) (i j : Nat) (hi : i < size) (hj : j < size) :
    Calls Tryz.prog 163 #[.int .i64 i, .int .i64 j, .pointer (some ⟨Bs, 0, none⟩)] W fun e w' => e = .returned (.bool (Op.bytesLess (G i).toList (G j).toList)) ∧ ∃ q, w' = W.drewN q := by
  have ci := hc i hi
  have cj := hc j hj
  go_enter Tryz.func163, Tryz.ntmps163
  go_wp2
  go_quiet (fail)
  go_wp2
  go_ret
  exact ⟨rfl, nq, rfl⟩

theorem swapper9 (args : Array Value) (W : World) : (callFunc 215 args).run Tryz.prog W = ((Extern.ReflectliteSwapper.swap false args).run Tryz.prog W).andThen fun v w' => .ok (.value v) w' :=
  run_callFunc_extern Tryz.func215 (by kernel_rfl) (by kernel_rfl) (by kernel_rfl) (e := Extern.ReflectliteSwapper.swap false) (by kernel_rfl) args W

/-- The call at two elements or more. -/
theorem sort_kv_two (blk off c Bs : Nat) (d : Array KV) (h2 : 2 ≤ d.size) (hsz : d.size < 4611686018427387904) (w : World) (hH : Sort.HoldsK encKV 2 w blk off d) (hblk : blk < w.heap.size)
    (hBs : w.cell? ⟨Bs, 0, none⟩ = some (.slice (some ⟨blk, off, none⟩) d.size c)) (hB1 : Bs < w.heap.size) (hB2 : Bs ≠ blk) :
    Calls Tryz.prog 162 #[.iface 185 (.slice (some ⟨blk, off, none⟩) d.size c), .func (.func 163) #[] #[.pointer (some ⟨Bs, 0, none⟩)]] w fun e w' =>
      e = .returned (.tuple #[]) ∧ ∃ d' n os, Sort.PermIn 0 d.size d d' ∧ Sort.SortedIn ltKV 0 d.size d' ∧ w' = Sort.grow (Sort.putRowK encKV 2 (Sort.ahead w n) blk off d') os := by
  have hless : LessReadsK Tryz.prog 163 #[.pointer (some ⟨Bs, 0, none⟩)] encKV 2 ltKV blk off d.size w := by
    intro m os dk hs i j hi hj
    have e : sortWorldK encKV 2 w blk off m dk os = Sort.putRowK encKV 2 (Sort.grow (Sort.ahead w m) os) blk off dk := by
      unfold sortWorldK; rw [Sort.putRowK_grow _ _ (Sort.ahead w m) _ blk off _ hblk]
    have hHg : Sort.HoldsK encKV 2 (Sort.grow (Sort.ahead w m) os) blk off d := Sort.holdsK_grow _ _ _ _ blk off d hblk (Sort.holdsK_ahead _ _ _ _ _ _ _ hH)
    refine less_kv blk off c Bs d.size _ (fun t => dk[t]!.1) ?_ (fun t ht => ?_) i j hi hj
    · rw [e, Sort.cell?_putRowK_other _ _ _ blk off dk _ (by exact hB2), Sort.cell?_grow _ _ _ (by exact hB1)]; exact hBs
    · rw [e]; exact ((Sort.holdsK_putRowK _ _ _ blk off d dk hHg hs).cell (i := t) (c := 0) (by omega) (by omega)).1
  exact Any.sort_Slice_cells_sorted Go.Proofs.Tryz.sort6 185 187 kvT kvE (by kernel_rfl) (by kernel_rfl) (by kernel_rfl) (by kernel_rfl) 25 (fun _ => by kernel_rfl) encKV 2 (fun _ => rfl) (by kernel_rfl) (fun _ => by kernel_rfl)
    (fun x v hv => by simp only [encKV, List.mem_cons, List.not_mem_nil, or_false] at hv; rcases hv with rfl | rfl; · rfl
                      · exact oneV_one _) ltKV swo_ltKV 163 _
    (enters_of Tryz.func163 (by kernel_rfl) rfl) blk off c d h2 hsz 215 (by rw [kvK _ h2]; kernel_rfl) false
    swapper9 w hless hH hblk
/-- The call at one element or none. -/
theorem sort_kv_tiny (p : Option Addr) (n c Bs : Nat) (h1 : n ≤ 1) (w : World) :
    Calls Tryz.prog 162 #[.iface 185 (.slice p n c), .func (.func 163) #[] #[.pointer (some ⟨Bs, 0, none⟩)]] w fun e w' => e = .returned (.tuple #[]) ∧ ∃ os, w' = Sort.grow w os := by
  have hK : Lib.swapperK n kvE 25 = n + 1 := by
    rcases Nat.eq_zero_or_pos n with h | h
    · subst h; simp [Lib.swapperK]
    · obtain rfl : n = 1 := by omega
      simp [Lib.swapperK]
  exact Any.sort_Slice_tiny Go.Proofs.Tryz.sort6 185 187 kvT kvE (by kernel_rfl) (by kernel_rfl) (by kernel_rfl) (by kernel_rfl) 25 (fun _ => by kernel_rfl) p n c h1 (if n = 0 then 207 else 208) (by
    rw [hK]
    rcases Nat.eq_zero_or_pos n with h | h
    · subst h; kernel_rfl
    · obtain rfl : n = 1 := by omega
      kernel_rfl) _ #[] #[.pointer (some ⟨Bs, 0, none⟩)] w
/-- What a sort leaves: its own row, and new blocks. -/
theorem putRowK_block (w : World) (n blk off : Nat) (d : Array KV) (os : Array Obj) (k : Nat) (hk : k < w.heap.size) : (Sort.grow (Sort.putRowK encKV 2 (Sort.ahead w n) blk off d) os).heap[k]? = if blk = k then w.heap[k]?.map (Sort.onCells (Sort.putCells id off (Sort.flatK encKV 2 d))) else w.heap[k]? := by
  have hs : (Sort.putRowK encKV 2 (Sort.ahead w n) blk off d).heap.size = w.heap.size := by rw [Sort.size_putRowK]; rfl
  show ((Sort.putRowK encKV 2 (Sort.ahead w n) blk off d).heap ++ os)[k]? = _
  rw [Array.getElem?_append_left (by rw [hs]; exact hk)]
  unfold Sort.putRowK Sort.putRow Sort.mapBlock
  rw [Array.getElem?_modify]
  rfl
theorem putRowK_gb (w : World) (n blk off : Nat) (d : Array KV) (os : Array Obj) : w.grownBy (Sort.grow (Sort.putRowK encKV 2 (Sort.ahead w n) blk off d) os) (some blk) := by
  refine ⟨rfl, rfl, rfl, ?_, fun k hk hn => ?_⟩
  · have hs : (Sort.putRowK encKV 2 (Sort.ahead w n) blk off d).heap.size = w.heap.size := by rw [Sort.size_putRowK]; rfl
    show w.heap.size ≤ ((Sort.putRowK encKV 2 (Sort.ahead w n) blk off d).heap ++ os).size
    rw [Array.size_append, hs]
    omega
  · rw [putRowK_block _ _ _ _ _ _ _ hk, if_neg (fun e => hn (by rw [e]))]
theorem grow_gb (w : World) (os : Array Obj) (r : Option Nat) : w.grownBy (Sort.grow w os) r := by
  refine ⟨rfl, rfl, rfl, ?_, fun k hk _ => ?_⟩
  · show w.heap.size ≤ (w.heap ++ os).size
    rw [Array.size_append]
    omega
  · show (w.heap ++ os)[k]? = _
    rw [Array.getElem?_append_left hk]
/-- The row holds these pairs. -/
def RowKV (w : World) (kb : Nat) (l : List KV) : Prop := (∃ cs fz, w.heap[kb]? = some (.cells cs 187 fz)) ∧ Sort.HoldsK encKV 2 w kb 0 l.toArray
theorem RowKV.lt {w : World} {kb : Nat} {l : List KV} (h : RowKV w kb l) : kb < w.heap.size := by
  obtain ⟨⟨cs, fz, h⟩, _⟩ := h
  exact (Array.getElem?_eq_some_iff.1 h).1
theorem RowKV.at {w : World} {kb : Nat} {l : List KV} (h : RowKV w kb l) (i : Nat) (hi : i < l.length) : w.cell? ⟨kb, 0 + i * 2, none⟩ = some (.string l[i].1) ∧ w.cell? ⟨kb, 0 + i * 2 + 1, none⟩ = some (oneV l[i].2) := by
  have h0 := (h.2.cell (i := i) (c := 0) (by simpa using hi) (by decide)).1
  have h1 := (h.2.cell (i := i) (c := 1) (by simpa using hi) (by decide)).1
  rw [getElem!_pos l.toArray i (by simpa using hi)] at h0 h1
  exact ⟨by simpa [encKV] using h0, by simpa [encKV] using h1⟩
theorem RowKV.kept {w w' : World} {kb : Nat} {l : List KV} (h : RowKV w kb l) (hk : w'.heap[kb]? = w.heap[kb]?) : RowKV w' kb l := by
  obtain ⟨⟨cs, fz, h1⟩, h2⟩ := h
  refine ⟨⟨cs, fz, hk.trans h1⟩, fun t ht => ?_⟩
  have := h2 t ht
  refine ⟨?_, ?_⟩
  · rw [← this.1]; simp only [World.cell?, hk]
  · rw [← this.2]; simp only [World.frozen?, hk]
/-- The encoder's call: the row then holds the map's entries in their own order. -/
theorem sort_kv_any {ks : List ByteArray} {xs : List Value} {E : List KV} (hu : KeysUp ks) (hx : xs.length = ks.length) (hE : E.Perm (ks.zip xs)) (hn : E.length < 4611686018427387904) (kb c Bs : Nat) (w : World) (hR : RowKV w kb E)
    (hBs : w.cell? ⟨Bs, 0, none⟩ = some (.slice (some ⟨kb, 0, none⟩) E.length c)) (hB2 : Bs ≠ kb) :
    Calls Tryz.prog 162 #[.iface 185 (.slice (some ⟨kb, 0, none⟩) E.length c), .func (.func 163) #[] #[.pointer (some ⟨Bs, 0, none⟩)]] w fun e w' =>
      e = .returned (.tuple #[]) ∧ RowKV w' kb (ks.zip xs) ∧ w.grownBy w' (some kb) := by
  by_cases h2 : 2 ≤ E.length
  · have h := sort_kv_two kb 0 c Bs E.toArray (by simpa using h2) (by simpa using hn) w hR.2 hR.lt (by simpa using hBs) (cell_lt hBs) hB2
    rw [show E.toArray.size = E.length by simp] at h
    refine h.mono ?_
    rintro e w' ⟨rfl, d', n, os, hp, hs, rfl⟩
    have hd : d' = (ks.zip xs).toArray := by
      rw [← sorted_is_zip hu hx hE (by simpa using hp) (by simpa using hs)]
    subst hd
    obtain ⟨⟨cs, fz, h1⟩, h2⟩ := hR
    refine ⟨rfl, ⟨?_, ?_⟩, putRowK_gb _ _ _ _ _ _⟩
    · rw [putRowK_block _ _ _ _ _ _ _ (Array.getElem?_eq_some_iff.1 h1).1, if_pos rfl, h1]
      exact ⟨_, _, rfl⟩
    · refine Sort.holdsK_grow _ _ _ _ _ _ _ (by rw [Sort.size_putRowK]; exact (Array.getElem?_eq_some_iff.1 h1).1) ?_
      exact Sort.holdsK_putRowK _ _ _ _ _ E.toArray _ (Sort.holdsK_ahead _ _ _ _ _ _ _ h2) (by have := hE.length_eq; simp only [List.size_toArray]; omega)
  · refine (sort_kv_tiny (some ⟨kb, 0, none⟩) E.length c Bs (by omega) w).mono ?_
    rintro e w' ⟨rfl, os, rfl⟩
    have he : E = ks.zip xs := by
      cases E with
      | nil => exact hE.nil_eq
      | cons a l =>
        cases l with
        | nil => exact (List.perm_singleton.1 hE.symm).symm
        | cons b l => simp at h2
    rw [← he]
    exact ⟨rfl, hR.kept ((grow_gb w os none).block kb hR.lt (by simp)), grow_gb _ _ _⟩
end Go.Proofs.YtjpcdbopioblaaaGreatDoor

/- The thin package's toGo walked: a good value comes out as itself. -/
namespace Go.Proofs.YtjpcdbopioblaaaGreatDoor
open Go.RowKit Go.WideMaps Go.Maps

def GoPost (x : RV) (w : World) (e : Ending) (w' : World) : Prop := ∃ v, e = .returned (.tuple #[v, .bool true]) ∧ x.Go w' w.heap.size v ∧ Below w.heap.size w w'


/-- The list that is being made: block O; its first i places are filled. -/
structure MadeL (w : World) (O : Nat) (l : List RV) (i : Nat) (wx : World) : Prop where
  row : ∃ cs : Array Value, wx.heap[O]? = some (.cells cs 20 (0, 0)) ∧ cs.size = l.length ∧ ∀ (j : Nat) (_ : j < i) (h : j < l.length), ∃ x, cs[j]? = some x ∧ l[j].Go wx (O + 1) x
  below : Below O w wx
theorem MadeL.lt {w wx : World} {O i : Nat} {l : List RV} (h : MadeL w O l i wx) : O < wx.heap.size := by obtain ⟨cs, h1, _⟩ := h.row; exact lt_of_block h1
theorem MadeL.cell {w wx : World} {O i : Nat} {l : List RV} (h : MadeL w O l i wx) (j : Nat) (hj : j < l.length) : ∃ u, wx.cell? ⟨O, j, none⟩ = some u := by
  obtain ⟨cs, h1, h2, _⟩ := h.row
  exact ⟨cs[j]'(by omega), by simp [World.cell?, h1, show j < cs.size from by omega]⟩
theorem MadeL.fr {w wx : World} {O i : Nat} {l : List RV} (h : MadeL w O l i wx) (j : Nat) : wx.frozen? ⟨O, j, none⟩ = false := by
  obtain ⟨cs, h1, h2, _⟩ := h.row
  simp [World.frozen?, h1]
theorem MadeL.kept {w wx w' : World} {O i : Nat} {l : List RV} (h : MadeL w O l i wx) (hb : Below wx.heap.size wx w') : MadeL w O l i w' := by
  have hlt := h.lt
  obtain ⟨cs, h1, h2, h3⟩ := h.row
  refine ⟨⟨cs, (hb.block O hlt).trans h1, h2, fun j hj hl => ?_⟩, h.below.trans (hb.mono (by omega))⟩
  obtain ⟨x, hx, hg⟩ := h3 j hj hl
  exact ⟨x, hx, hg.same (.of_below hb _)⟩
theorem MadeL.store {w wx : World} {O i : Nat} {l : List RV} (h : MadeL w O l i wx) (hi : i < l.length) (x : Value) (hx : l[i].Go wx (O + 1) x) : MadeL w O l (i + 1) (wx.setCell ⟨O, i, none⟩ x) := by
  have hlt := h.lt
  obtain ⟨cs, h1, h2, h3⟩ := h.row
  have hg : wx.grownBy (wx.setCell ⟨O, i, none⟩ x) (some O) := gb_set (World.grownBy.refl wx _) i x
  have hs : SameFrom (O + 1) wx (wx.setCell ⟨O, i, none⟩ x) := .of_gb hg (by omega)
  refine ⟨⟨cs.setIfInBounds i x, ?_, by simpa using h2, fun j hj hl => ?_⟩, below_gb h.below hg (by omega) (Nat.le_refl _)⟩
  · have h' : wx.heap[O] = .cells cs 20 (0, 0) := by simpa [Array.getElem?_eq_getElem hlt] using h1
    show (wx.heap.modify O _)[O]? = _
    rw [Array.getElem?_eq_getElem (by simpa using hlt), Array.getElem_modify_self, h']
    rfl
  · by_cases he : j = i
    · subst he
      exact ⟨x, by simp [show j < cs.size from by omega], hx.same hs⟩
    · obtain ⟨y, hy, hg'⟩ := h3 j (by omega) hl
      exact ⟨y, by rw [Array.getElem?_setIfInBounds_ne (by omega)]; exact hy, hg'.same hs⟩
theorem MadeL.start (w : World) (l : List RV) : MadeL w w.heap.size l 0 (w.alloc (.cells (madeCells #[.nilIface] l.length) 20)) :=
  ⟨⟨_, heap_alloc_new _ _, by simp [size_madeCells], fun j hj => by omega⟩, (Below.refl _ _).alloc (Nat.le_refl _) _⟩
theorem MadeL.done {w wx : World} {O : Nat} {l : List RV} (h : MadeL w O l l.length wx) : RV.GoL wx O (some ⟨O, 0, none⟩) 0 l := by
  obtain ⟨cs, h1, h2, h3⟩ := h.row
  refine RV.GoL.of (Nat.le_refl _) l 0 fun j hj => ?_
  obtain ⟨x, hx, hg⟩ := h3 j hj hj
  exact ⟨x, by simpa [World.cell?, h1] using hx, hg.mono (by omega)⟩

set_option maxRecDepth 100000 in
set_option maxHeartbeats 400000 in
theorem listToGo_big (n : Nat) (ih : ∀ (x : RV) (v : Value) (w : World), x.nodes ≤ n → x.Good → x.Rep w v → Calls Tryz.prog 35 #[v] w (GoPost x w))
    (l : List RV) (a : Option Addr) (cap : Nat) (w : World) (hn : RV.nodesL l ≤ n) (hg : RV.GoodL l) (hr : RV.RepL w a 0 l) (hl : l.length ≤ 2000) :
    Calls Tryz.prog 73 #[.slice a l.length cap] w fun e w' => ∃ a' cap', e = .returned (.tuple #[.slice a' l.length cap', .bool true]) ∧ RV.GoL w' w.heap.size a' 0 l ∧ Below w.heap.size w w' := by
  have HIH := Lib.hid ih
  have HR := Lib.hid hr
  have HN := Lib.hid hn
  have HG := Lib.hid hg
  clear ih hr hn hg
  have info : (Tryz.prog.info? 20).map (fun i => (i.zero, i.size, i.bytes)) = some (some .nilIface, 1, 16) := by kernel_rfl
  have hmk := run_make_row' (P := Tryz.prog) 87 20 .nilIface 16 Tryz.underlying87 info rfl .i64 .i64 l.length (by omega) (by omega)
  clear info
  go_enter Tryz.func73, Tryz.ntmps73
  go_wp2_with fail
  have H0 := Lib.hid (MadeL.start w l)
  go_loopg [5, 6, 7, 8, 14] (l.length) (fun gk _ _ _ _ s14 wr => ∃ i : Nat, s14 = .int .i64 i ∧ i ≤ l.length ∧ gk = l.length - i ∧ Hid (MadeL w w.heap.size l i wr))
  case atStart => exact ⟨0, rfl, Nat.zero_le _, rfl, H0⟩
  case round =>
    obtain ⟨i, rfl, hi, rfl, HM⟩ := hrel
    by_cases hlt : i < l.length
    · obtain ⟨eb, eo, c0, c1, c2, c3, c4, c5, rfl, e0, e1, e2, e3, e4, e5, hre⟩ := HR.out.get i hlt
      simp only [Nat.zero_add] at e0 e1 e2 e3 e4 e5
      have HRE := Lib.hid hre
      have hbw := HM.out.below
      have hel := cell_lt e0
      have f0 := (hbw.cell (p := ⟨eb, _, none⟩) hel).trans e0
      have f1 := (hbw.cell (p := ⟨eb, _, none⟩) hel).trans e1
      have f2 := (hbw.cell (p := ⟨eb, _, none⟩) hel).trans e2
      have f3 := (hbw.cell (p := ⟨eb, _, none⟩) hel).trans e3
      have f4 := (hbw.cell (p := ⟨eb, _, none⟩) hel).trans e4
      have f5 := (hbw.cell (p := ⟨eb, _, none⟩) hel).trans e5
      clear e0 e1 e2 e3 e4 e5 hbw
      obtain ⟨vk, vh, vt, val, vnl, vcl, vak, vnk, vck, vav, vnv, vcv, rfl, rfl, rfl, rfl, rfl, rfl⟩ := hre.shape
      clear hre
      have hnn : l[i].nodes ≤ n := Nat.le_trans (RV.nodes_le hlt) HN.out
      have hgi : l[i].Good := HG.out.get i hlt
      have HC : Hid (∀ wx, Below w.heap.size w wx → Calls Tryz.prog 35 #[.agg #[.int .i64 vk, .int .i64 vh, .string vt, .slice val vnl vcl, .slice vak vnk vck, .slice vav vnv vcv]] wx (GoPost l[i] wx)) := fun wx hb => HIH.out _ _ _ hnn hgi (HRE.out.below hb)
      clear hnn hgi
      go_wp2_with fail
      refine (HC.out _ (HM.out.below.alloc (Nat.le_of_lt HM.out.lt) _)).mono ?_
      rintro e w3 ⟨v, rfl, hv, hb3⟩
      have HM3 := Lib.hid ((HM.out.kept ((Below.refl _ _).alloc (Nat.le_refl _) _)).kept hb3)
      have HV : Hid (l[i].Go w3 (w.heap.size + 1) v) := hv.mono (by have := HM.out.lt; simp; omega)
      obtain ⟨u, hcO⟩ := HM3.out.cell i hlt
      have hfO := HM3.out.fr i
      clear hb3 f0 f1 f2 f3 f4 f5
      rcases hv.shape with rfl | ⟨ty, y, rfl⟩
      all_goals
        clear hv
        go_wp2_with fail
        go_roundg (l.length - (i + 1))
        case measure => omega
        case rel => exact ⟨i + 1, by go_num, by omega, rfl, HM3.out.store hlt _ HV.out⟩
    · obtain rfl : i = l.length := by omega
      go_wp2_with fail
      go_ret2
      exact ⟨_, _, rfl, HM.out.done, HM.out.below⟩

/-- The map that is being made: block M; the first i keys are in it; X: the box of the argument. -/
structure MadeM (w : World) (M : Nat) (cs : Array Value) (ks : List ByteArray) (vs : List RV) (i : Nat) (wx : World) : Prop where
  map : ∃ xs, wx.ownsMap Tryz.prog 9 heldR M i (mapD (ks.take i) xs) ∧ xs.length = i ∧ RV.GoV wx (M + 1) xs (vs.take i)
  box : wx.heap[w.heap.size]? = some (.cells cs 27 (0, 0))
  below : Below w.heap.size w wx
  up : w.heap.size < M
theorem MadeM.lt {w wx : World} {M i : Nat} {cs : Array Value} {ks : List ByteArray} {vs : List RV} (h : MadeM w M cs ks vs i wx) : M < wx.heap.size := by obtain ⟨xs, h1, _⟩ := h.map; exact h1.lt
theorem MadeM.cell {w wx : World} {M i : Nat} {cs : Array Value} {ks : List ByteArray} {vs : List RV} (h : MadeM w M cs ks vs i wx) (j : Nat) : wx.cell? ⟨w.heap.size, j, none⟩ = cs[j]? := by simp [World.cell?, h.box]
theorem MadeM.kept {w wx w' : World} {M i : Nat} {cs : Array Value} {ks : List ByteArray} {vs : List RV} (h : MadeM w M cs ks vs i wx) (hb : Below wx.heap.size wx w') : MadeM w M cs ks vs i w' := by
  have hlt := h.lt
  obtain ⟨xs, h1, h2, h3⟩ := h.map
  exact ⟨⟨xs, (SameFrom.of_below hb 0).map (Nat.zero_le _) h1, h2, h3.same (.of_below hb _)⟩, (hb.block _ (by have := h.up; omega)).trans h.box, h.below.trans (hb.mono (by have := h.up; omega)), h.up⟩
theorem MadeM.store {w wx w' : World} {M i : Nat} {cs : Array Value} {ks : List ByteArray} {vs : List RV} (h : MadeM w M cs ks vs i wx) (hi : i < ks.length) (hv : i < vs.length) (x : Value) (hx : vs[i].Go wx (M + 1) x) (hu : KeysUp ks) (key : ByteArray) (hkey : ks[i] = key)
    (xs : List Value) (m2 : xs.length = i) (m3 : RV.GoV wx (M + 1) xs (vs.take i))
    (h1 : w'.ownsMap Tryz.prog 9 heldR M (i + 1) ((mapD (ks.take i) xs).put (.string key.data.toList) (.held x))) (hg : wx.grownBy w' (some M)) : MadeM w M cs ks vs (i + 1) w' := by
  have hlt := h.lt
  have hs : SameFrom (M + 1) wx w' := .of_gb hg (by omega)
  subst hkey
  refine ⟨⟨xs ++ [x], ?_, by simp [m2], ?_⟩, (hg.block _ (by have := h.up; omega) (fun e => by cases e; exact absurd h.up (Nat.lt_irrefl _))).trans h.box, below_gb h.below hg (by have := h.up; omega) (by have := h.up; omega), h.up⟩
  · rw [mapD_put (ks.take i) xs ks[i] x (by simp [m2]; omega) (fun y hy => by
      obtain ⟨j, hj, rfl⟩ := List.mem_iff_getElem.1 hy
      simp only [List.length_take] at hj
      simpa using hu.lt' (i := j) (j := i) (by omega) hi)] at h1
    rwa [List.take_succ_eq_append_getElem hi]
  · rw [List.take_succ_eq_append_getElem hv]
    exact RV.GoV.snoc (m3.same hs) (hx.same hs)

theorem run_makeMap_hint {P : Program} (t k e : TypeId) (kd : IntKind) (n : Int) (ht : P.underlying t = some (.map k e)) (w : World) :
    (Instr.makeMap t (some (.int kd n))).run P w = .ok (.map (some w.heap.size)) (w.alloc (.map #[] 0)) := by
  simp [Instr.makeMap, run_underlying ht]; rfl

set_option maxRecDepth 100000 in
set_option maxHeartbeats 800000 in
theorem mapToGo_any (n : Nat) (ih : ∀ (x : RV) (v : Value) (w : World), x.nodes ≤ n → x.Good → x.Rep w v → Calls Tryz.prog 35 #[v] w (GoPost x w))
    (k h : Int) (t : ByteArray) (l : List RV) (ks : List ByteArray) (vs : List RV) (v : Value) (w : World) (hn : RV.nodesL vs ≤ n) (hg : RV.GoodL vs) (hu : KeysUp ks) (hlen : ks.length = vs.length) (hr : (RV.mk k h t l ks vs).Rep w v) (hl : ks.length ≤ 2000) :
    Calls Tryz.prog 74 #[v] w fun e w' => ∃ r n' xs, e = .returned (.tuple #[.map (some r), .bool true]) ∧ w.heap.size ≤ r ∧ n' ≤ 1000000 ∧ w'.ownsMap Tryz.prog 9 heldR r n' (mapD ks xs) ∧ xs.length = ks.length ∧ RV.GoV w' w.heap.size xs vs ∧ Below w.heap.size w w' := by
  have HIH := Lib.hid ih
  have HN := Lib.hid hn
  have HG := Lib.hid hg
  have HU := Lib.hid hu
  have HLEN := Lib.hid hlen
  unfold RV.Rep at hr
  obtain ⟨al, cl, ak, ck, av, cv, rfl, hk, hh, ht, hll, hlk, hlv, hrl, hrk, hrv⟩ := hr
  have HRK := Lib.hid hrk
  have HRV := Lib.hid hrv
  clear ih hn hg hu hlk hlv hll hrl hrk hrv
  have hmk := fun kd n => run_makeMap_hint (P := Tryz.prog) 90 9 20 kd n Tryz.underlying90
  have K : Keyed Tryz.prog 9 := string_keyed Tryz.underlying9
  have hneq : ((ks.length : Int) != (vs.length : Int)) = false := by simp [hlen]
  clear hlen
  obtain ⟨cs, hcs⟩ : ∃ cs : Array Value, cs = #[.int .i64 k, .int .i64 h, .string t, .slice al l.length cl, .slice ak ks.length ck, .slice av vs.length cv] := ⟨_, rfl⟩
  have HCS := Lib.hid hcs
  clear hcs
  go_enter Tryz.func74, Tryz.ntmps74
  go_wp2_with fail
  have H0 : Hid (MadeM w (w.heap.size + 1) cs ks vs 0 ((w.alloc (.cells #[.int .i64 k, .int .i64 h, .string t, .slice al l.length cl, .slice ak ks.length ck, .slice av vs.length cv] 27)).alloc (.map #[] 0))) := by
    refine ⟨⟨[], ?_, rfl, by unfold RV.GoV; rfl⟩, ?_, ((Below.refl _ w).alloc (Nat.le_refl _) _).alloc (by simp) _, by omega⟩
    · have := World.ownsMap_made (H := Value) (w.alloc (.cells #[.int .i64 k, .int .i64 h, .string t, .slice al l.length cl, .slice ak ks.length ck, .slice av vs.length cv] 27)) Tryz.prog 9 heldR
      simpa [mapD] using this
    · rw [HCS.out]
      exact (Below.heap_alloc _ _ _ (by simp)).trans (heap_alloc_new _ _)
  go_loopg [5, 6, 7, 8, 23] (ks.length) (fun gk _ _ _ _ s23 wr => ∃ i : Nat, s23 = .int .i64 i ∧ i ≤ ks.length ∧ gk = ks.length - i ∧ Hid (MadeM w (w.heap.size + 1) cs ks vs i wr))
  case atStart => exact ⟨0, rfl, Nat.zero_le _, rfl, H0⟩
  case round =>
    obtain ⟨i, rfl, hi, rfl, HM⟩ := hrel
    by_cases hlt : i < ks.length
    · have hltv : i < vs.length := by have := HLEN.out; omega
      have k4 : wr.cell? ⟨w.heap.size, 4, none⟩ = some (.slice ak ks.length ck) := by rw [HM.out.cell, HCS.out]; rfl
      have k5 : wr.cell? ⟨w.heap.size, 5, none⟩ = some (.slice av vs.length cv) := by rw [HM.out.cell, HCS.out]; rfl
      obtain ⟨kb, ko, rfl, hks, g0⟩ := HRK.out.get i hlt
      simp only [Nat.zero_add] at g0
      have hel := cell_lt g0
      have q0 := (HM.out.below.cell (p := ⟨kb, _, none⟩) hel).trans g0
      obtain ⟨key, hkey⟩ : ∃ key, ks[i] = key := ⟨_, rfl⟩
      rw [hkey] at q0 g0 hks
      have HKEY := Lib.hid hkey
      clear hkey g0
      obtain ⟨eb, eo, c0, c1, c2, c3, c4, c5, rfl, e0, e1, e2, e3, e4, e5, hre⟩ := HRV.out.get i hltv
      simp only [Nat.zero_add] at e0 e1 e2 e3 e4 e5
      have HRE := Lib.hid hre
      have hbw := HM.out.below
      have hev := cell_lt e0
      have f0 := (hbw.cell (p := ⟨eb, _, none⟩) hev).trans e0
      have f1 := (hbw.cell (p := ⟨eb, _, none⟩) hev).trans e1
      have f2 := (hbw.cell (p := ⟨eb, _, none⟩) hev).trans e2
      have f3 := (hbw.cell (p := ⟨eb, _, none⟩) hev).trans e3
      have f4 := (hbw.cell (p := ⟨eb, _, none⟩) hev).trans e4
      have f5 := (hbw.cell (p := ⟨eb, _, none⟩) hev).trans e5
      clear e0 e1 e2 e3 e4 e5 hbw
      obtain ⟨vk, vh, vt, val, vnl, vcl, vak, vnk, vck, vav, vnv, vcv, rfl, rfl, rfl, rfl, rfl, rfl⟩ := hre.shape
      clear hre
      have hnn : vs[i].nodes ≤ n := Nat.le_trans (RV.nodes_le hltv) HN.out
      have hgi : vs[i].Good := HG.out.get i hltv
      have HC : Hid (∀ wx, Below w.heap.size w wx → Calls Tryz.prog 35 #[.agg #[.int .i64 vk, .int .i64 vh, .string vt, .slice val vnl vcl, .slice vak vnk vck, .slice vav vnv vcv]] wx (GoPost vs[i] wx)) := fun wx hb => HIH.out _ _ _ hnn hgi (HRE.out.below hb)
      clear hnn hgi
      have hp : (i : Int) ≤ 0 ∨ ∃ j, i = j + 1 ∧ ∃ pk : ByteArray, wr.cell? ⟨kb, ko + j, none⟩ = some (.string pk) ∧ Op.bytesLess pk.toList key.toList = true := by
        cases i with
        | zero => exact .inl (Int.le_refl _)
        | succ j =>
          obtain ⟨kb2, ko2, e2, _, g2⟩ := HRK.out.get j (by omega)
          cases e2
          simp only [Nat.zero_add] at g2
          refine .inr ⟨j, rfl, _, (HM.out.below.cell (p := ⟨kb, _, none⟩) hel).trans g2, ?_⟩
          have := HU.out j hlt
          rwa [HKEY.out] at this
      obtain ⟨gi, hgi⟩ : ∃ gi, gi = ks.length - (i + 1) := ⟨_, rfl⟩
      have HGI := Lib.hid hgi
      clear hgi
      rcases hp with hi0 | ⟨j, rfl, pk, j2, hless⟩
      all_goals
        go_wp2_with fail
        refine (HC.out _ HM.out.below).mono ?_
        rintro e w3 ⟨v, rfl, hv, hb3⟩
        have HM3 := Lib.hid (HM.out.kept hb3)
        have hvM := hv.mono (base' := w.heap.size + 1 + 1) (by have := HM.out.lt; omega)
        have HV := Lib.hid hvM
        obtain ⟨xs, m1, m2, m3⟩ := HM3.out.map
        have HX2 := Lib.hid m2
        have HX3 := Lib.hid m3
        clear hb3 f0 f1 f2 f3 f4 f5 m2 m3 hv
        rcases hvM.shape with rfl | ⟨ty, y, rfl⟩
        all_goals
          clear hvM
          go_wp2_with (at_mapUpdate; go_must (refine wpList_mapUpdate_own _ rfl _ _ _ 90 rfl 9 20 K Tryz.underlying90 heldR _ _ _ rfl m1 (by unfold maxLen; omega) _ _ _ rfl rfl (keyOf_string_mk Tryz.underlying9 (by unfold reachN at hks; unfold maxLen; omega)) _ [] rfl ?_); intro w5 hown5 hgrow5)
          go_roundg gi
          case measure => have := HGI.out; omega
          case rel => exact ⟨_, by go_num, by omega, HGI.out, HM3.out.store hlt hltv _ HV.out HU.out key HKEY.out xs HX2.out HX3.out hown5 hgrow5⟩
    · obtain rfl : i = ks.length := by omega
      go_wp2_with fail
      go_ret2
      obtain ⟨xs, m1, m2, m3⟩ := HM.out.map
      rw [List.take_length] at m1
      rw [HLEN.out, List.take_length] at m3
      exact ⟨_, _, xs, rfl, by omega, by omega, m1, m2, m3.mono (by omega), HM.out.below⟩

set_option maxRecDepth 100000 in
set_option maxHeartbeats 400000 in
theorem toGo_big (n : Nat) (hn4 : n ≤ 2000) : ∀ (x : RV) (v : Value) (w : World), x.nodes ≤ n → x.Good → x.Rep w v → Calls Tryz.prog 35 #[v] w (GoPost x w) := by
  induction n with
  | zero => intro x v w hn; have := x.nodes_pos; omega
  | succ n ih =>
  intro x v w hn hg hr
  obtain ⟨k, h, t, l, ks, vs⟩ := x
  have HIH := Lib.hid (ih (by omega))
  have HR := Lib.hid hr
  have HG := Lib.hid hg
  have HN := Lib.hid hn
  clear ih hn
  unfold RV.Rep at hr
  obtain ⟨al, cl, ak, ck, av, cv, rfl, hk, hh, ht, hll, hlk, hlv, hrl, hrk, hrv⟩ := hr
  clear hlk hlv hll hrl hrk hrv
  have HG' := Lib.hid hg
  have HRL : Hid (RV.RepL w al 0 l) := by have := HR.out; unfold RV.Rep at this; obtain ⟨_, _, _, _, _, _, e, _, _, _, _, _, _, h7, _⟩ := this; simp only [Value.agg.injEq, Array.mk.injEq, List.cons.injEq, Value.slice.injEq, and_true] at e; obtain ⟨_, _, _, ⟨rfl, _⟩, _⟩ := e; exact h7
  unfold RV.Good at hg
  obtain ⟨g0, g1, g2, g3, g4, g5, g6, g7, g8, g9, g10, g11, g12, g13, g14⟩ := hg
  have G6 := Lib.hid g6
  have G11 := Lib.hid g11
  have G13 := Lib.hid g13
  have G14 := Lib.hid g14
  have G9 := Lib.hid g9
  have hN : RV.nodesL l ≤ n ∧ RV.nodesL vs ≤ n := by have := HN.out; unfold RV.nodes at this; omega
  have HNN := Lib.hid hN
  clear g2 g3 g4 g5 g6 g9 g10 g11 g12 g13 g14 hN
  have hkk : k = 0 ∨ k = 1 ∨ k = 2 ∨ k = 3 ∨ k = 4 ∨ k = 5 ∨ k = 6 := by omega
  clear g0 g1
  rcases hkk with rfl | rfl | rfl | rfl | rfl | rfl | rfl
  · go_enter Tryz.func35, Tryz.ntmps35
    go_wp2_with fail
    go_ret2
    exact ⟨_, rfl, by unfold RV.Go; exact .inl ⟨rfl, rfl⟩, (Below.refl _ _).alloc (Nat.le_refl _) _⟩
  · go_enter Tryz.func35, Tryz.ntmps35
    go_wp2_with fail
    go_ret2
    exact ⟨_, rfl, by unfold RV.Go; exact .inr (.inl ⟨rfl, rfl⟩), (Below.refl _ _).alloc (Nat.le_refl _) _⟩
  · go_enter Tryz.func35, Tryz.ntmps35
    go_wp2_with fail
    go_ret2
    exact ⟨_, rfl, by unfold RV.Go; exact .inr (.inr (.inl ⟨rfl, rfl⟩)), (Below.refl _ _).alloc (Nat.le_refl _) _⟩
  · by_cases hpar : h.tmod 2 = 0
    · go_enter Tryz.func35, Tryz.ntmps35
      go_wp2_with fail
      go_ret2
      exact ⟨_, rfl, by unfold RV.Go; exact .inr (.inr (.inr (.inl ⟨rfl, by unfold numG; rw [if_pos hpar]; rfl⟩))), (Below.refl _ _).alloc (Nat.le_refl _) _⟩
    · have hrange : -9007199254740992 < h ∧ h < 9007199254740992 := by
        rcases G9.out with h9 | h9
        · exact absurd (Int.tmod_eq_zero_of_dvd (Int.dvd_of_emod_eq_zero h9)) hpar
        · exact h9
      have hpar' : (h.tmod 2 == 0) = false := by simpa using hpar
      have hq : ∀ w, (binOp .quo 86 (.float .f64 (floatOfInt .f64 h)) (.float .f64 4611686018427387904)).run Tryz.prog w = .ok (.float .f64 (halfF h)) w := fun w => run_float_arith w .quo 86 .f64 _ _ _ (half_bits h hrange.1 hrange.2)
      have HP := Lib.hid hpar
      clear hpar hrange
      go_enter Tryz.func35, Tryz.ntmps35
      go_wp2_with fail
      go_ret2
      exact ⟨_, rfl, by unfold RV.Go; exact .inr (.inr (.inr (.inl ⟨rfl, by unfold numG; rw [if_neg HP.out]; rfl⟩))), (Below.refl _ _).alloc (Nat.le_refl _) _⟩
  · go_enter Tryz.func35, Tryz.ntmps35
    go_wp2_with fail
    go_ret2
    exact ⟨_, rfl, by unfold RV.Go; exact .inr (.inr (.inr (.inr (.inl ⟨rfl, rfl⟩)))), (Below.refl _ _).alloc (Nat.le_refl _) _⟩
  · have HC := Lib.hid (listToGo_big n HIH.out l al cl (w.alloc (.cells #[.int .i64 5, .int .i64 h, .string t, .slice al l.length cl, .slice ak ks.length ck, .slice av vs.length cv] 27)) HNN.out.1 G11.out (HRL.out.below ((Below.refl _ w).alloc (Nat.le_refl _) _)) (by have := RV.len_le l; have := HNN.out.1; omega))
    go_enter Tryz.func35, Tryz.ntmps35
    go_wp2_with fail
    refine HC.out.mono ?_
    rintro e w1 ⟨a', cap', rfl, hgl, hb⟩
    have HGL := Lib.hid hgl
    have HB := Lib.hid hb
    clear hgl hb
    go_wp2_with fail
    go_ret2
    exact ⟨_, rfl, by unfold RV.Go; exact .inr (.inr (.inr (.inr (.inr (.inl ⟨rfl, _, _, rfl, HGL.out.mono (by simp)⟩))))), ((Below.refl _ _).alloc (Nat.le_refl _) _).trans (HB.out.mono (by simp))⟩
  · have HC := Lib.hid (mapToGo_any n HIH.out 6 h t l ks vs _ (w.alloc (.cells #[.int .i64 6, .int .i64 h, .string t, .slice al l.length cl, .slice ak ks.length ck, .slice av vs.length cv] 27)) HNN.out.2 G14.out G13.out G6.out (HR.out.below ((Below.refl _ w).alloc (Nat.le_refl _) _)) (by have := RV.len_le vs; have := HNN.out.2; have := G6.out; omega))
    go_enter Tryz.func35, Tryz.ntmps35
    go_wp2_with fail
    refine HC.out.mono ?_
    rintro e w1 ⟨r, n', xs, rfl, h1, h2, h3, h4, h5, hb⟩
    have HGL := Lib.hid (And.intro h1 (And.intro h2 (And.intro h3 (And.intro h4 h5))))
    have HB := Lib.hid hb
    clear hb h1 h2 h3 h4 h5
    go_wp2_with fail
    go_ret2
    obtain ⟨h1, h2, h3, h4, h5⟩ := HGL.out
    exact ⟨_, rfl, by unfold RV.Go; exact .inr (.inr (.inr (.inr (.inr (.inr ⟨rfl, r, n', xs, rfl, by simp at h1; omega, h2, h3, h4, h5.mono (by simp)⟩))))), ((Below.refl _ _).alloc (Nat.le_refl _) _).trans (HB.out.mono (by simp))⟩

theorem toGo_any (n : Nat) (hn4 : n ≤ 400) : ∀ (x : RV) (v : Value) (w : World), x.nodes ≤ n → x.Good → x.Rep w v → Calls Tryz.prog 35 #[v] w (GoPost x w) := toGo_big n (by omega)
theorem listToGo_any (n : Nat) (ih : ∀ (x : RV) (v : Value) (w : World), x.nodes ≤ n → x.Good → x.Rep w v → Calls Tryz.prog 35 #[v] w (GoPost x w))
    (l : List RV) (a : Option Addr) (cap : Nat) (w : World) (hn : RV.nodesL l ≤ n) (hg : RV.GoodL l) (hr : RV.RepL w a 0 l) (hl : l.length ≤ 400) :
    Calls Tryz.prog 73 #[.slice a l.length cap] w fun e w' => ∃ a' cap', e = .returned (.tuple #[.slice a' l.length cap', .bool true]) ∧ RV.GoL w' w.heap.size a' 0 l ∧ Below w.heap.size w w' := listToGo_big n ih l a cap w hn hg hr (by omega)
end Go.Proofs.YtjpcdbopioblaaaGreatDoor

/- The reference's order walked: it says 0 of good values exactly if they are equal. -/
namespace Go.Proofs.YtjpcdbopioblaaaGreatDoor
open Go.RowKit

def signOf (n : Int) : Int := if n < 0 then -1 else if 0 < n then 1 else 0
theorem signOf_range (n : Int) : -1 ≤ signOf n ∧ signOf n ≤ 1 ∧ (signOf n = 0 ↔ n = 0) := by unfold signOf; split <;> (try split) <;> omega

set_option maxRecDepth 100000 in
theorem sign_any (n : Int) (w : World) : Calls Tryz.prog 79 #[.int .i64 n] w fun e w' => e = .returned (.int .i64 (signOf n)) ∧ w' = w := by
  by_cases h1 : n < 0
  · have hs : signOf n = -1 := if_pos h1
    go_enter Tryz.func79, Tryz.ntmps79
    go_wp2_with fail
    go_ret
    first | exact ⟨rfl, rfl⟩ | exact ⟨by rw [hs]; rfl, rfl⟩
  · by_cases h2 : 0 < n
    · have hs : signOf n = 1 := by unfold signOf; rw [if_neg h1, if_pos h2]
      go_enter Tryz.func79, Tryz.ntmps79
      go_wp2_with fail
      go_ret
      first | exact ⟨rfl, rfl⟩ | exact ⟨by rw [hs]; rfl, rfl⟩
    · have hs : signOf n = 0 := by unfold signOf; rw [if_neg h1, if_neg h2]
      go_enter Tryz.func79, Tryz.ntmps79
      go_wp2_with fail
      go_ret
      first | exact ⟨rfl, rfl⟩ | exact ⟨by rw [hs]; rfl, rfl⟩

theorem ba_ext {a b : ByteArray} (h : a.toList = b.toList) : a = b := by
  rw [ByteArray.toList_eq, ByteArray.toList_eq] at h
  exact ByteArray.ext (Array.toList_inj.1 h)

set_option maxRecDepth 100000 in
theorem texts_any (a b : ByteArray) (w : World) : Calls Tryz.prog 80 #[.string a, .string b] w fun e w' => (∃ c : Int, e = .returned (.int .i64 c) ∧ -1 ≤ c ∧ c ≤ 1 ∧ (c = 0 ↔ a = b)) ∧ w' = w := by
  by_cases h1 : Op.bytesLess a.toList b.toList = true
  · have hne : a ≠ b := by
      rintro rfl
      rw [ByteArray.toList_eq, less_irrefl] at h1
      cases h1
    go_enter Tryz.func80, Tryz.ntmps80
    go_wp2_with fail
    go_ret
    exact ⟨⟨-1, rfl, by omega, by omega, ⟨fun e => by omega, fun e => absurd e hne⟩⟩, rfl⟩
  · have h1' : Op.bytesLess a.toList b.toList = false := by simpa using h1
    by_cases h2 : a = b
    · subst h2
      have h2' : (a.toList == a.toList) = true := by simp
      go_enter Tryz.func80, Tryz.ntmps80
      go_wp2_with fail
      go_ret
      exact ⟨⟨0, rfl, by omega, by omega, by simp⟩, rfl⟩
    · have h2' : (a.toList == b.toList) = false := by
        rw [Bool.eq_false_iff]
        intro e
        exact h2 (ba_ext (by simpa using e))
      go_enter Tryz.func80, Tryz.ntmps80
      go_wp2_with fail
      go_ret
      exact ⟨⟨1, rfl, by omega, by omega, ⟨fun e => by omega, fun e => absurd e h2⟩⟩, rfl⟩

theorem take_eq_end {α : Type} {a b : List α} {i : Nat} (h : a.take i = b.take i) (hi : i ≤ a.length ∧ i ≤ b.length) (he : ¬ (i < a.length ∧ i < b.length)) : ((a.length : Int) - (b.length : Int) = 0 ↔ a = b) := by
  constructor
  · intro e
    have e1 : a.length = i := by omega
    have e2 : b.length = i := by omega
    rw [← List.take_length (l := a), ← List.take_length (l := b), e1, e2, h]
  · rintro rfl; omega
theorem take_succ_eq {α : Type} {a b : List α} {i : Nat} (h : a.take i = b.take i) (h1 : i < a.length) (h2 : i < b.length) (e : a[i] = b[i]) : a.take (i + 1) = b.take (i + 1) := by
  rw [← List.take_append_getElem h1, ← List.take_append_getElem h2, h, e]

set_option maxRecDepth 100000 in
set_option maxHeartbeats 1600000 in
theorem keys_any (a b : Option Addr) (ca cb : Nat) (l l' : List ByteArray) (w : World) (hl : l.length ≤ reachN) (hl' : l'.length ≤ reachN) (h1 : KeysAt w a 0 l) (h2 : KeysAt w b 0 l') :
    Calls Tryz.prog 82 #[.slice a l.length ca, .slice b l'.length cb] w fun e w' => (∃ c : Int, e = .returned (.int .i64 c) ∧ -reachN ≤ c ∧ c ≤ reachN ∧ (c = 0 ↔ l = l')) ∧ Below w.heap.size w w' := by
  have H1 := Lib.hid h1
  have H2 := Lib.hid h2
  clear h1 h2
  unfold reachN at hl hl' ⊢
  go_enter Tryz.func82, Tryz.ntmps82
  go_wp2_with fail
  go_loopg [5] (l.length) (fun gk s5 wr => ∃ i : Nat, s5 = .int .i64 i ∧ i ≤ l.length ∧ i ≤ l'.length ∧ gk = l.length - i ∧ Hid (l.take i = l'.take i ∧ Below w.heap.size w wr))
  case atStart => exact ⟨0, rfl, Nat.zero_le _, Nat.zero_le _, rfl, Lib.hid ⟨by simp, Below.refl _ _⟩⟩
  case round =>
    obtain ⟨i, rfl, hi, hi', rfl, HR⟩ := hrel
    by_cases hlt : i < l.length
    · by_cases hlt' : i < l'.length
      · obtain ⟨ab, ao, rfl, -, ga⟩ := (H1.out.below HR.out.2).get i hlt
        obtain ⟨bb, bo, rfl, -, gb⟩ := (H2.out.below HR.out.2).get i hlt'
        simp only [Nat.zero_add] at ga gb
        have hj1 : (i : Int) < (l.length : Int) := by omega
        have hj2 : (i : Int) < (l'.length : Int) := by omega
        have HS := Lib.hid HR.out.2.drew
        clear hi hi'
        go_wp2_with fail
        refine wp_region_still_tail 8 (by kernel_rfl) (by kernel_rfl) ?_
        simp only [List.take_succ_cons, List.take_zero, List.drop_succ_cons, List.drop_zero]
        iterate 8 with_reducible still_step
        with_reducible refine wpStill_nil ?_
        change wpList _ _ _ _ _ (World.drew wr)
        generalize wr.drew = w2 at HS ⊢
        go_wp2_with (go_at_call 80; refine (texts_any _ _ _).mono ?_; rintro e w3 ⟨⟨c, rfl, hc1, hc2, hc⟩, rfl⟩; have HC := Lib.hid hc; clear hc; by_cases h0 : c = 0)
        · subst h0
          have hkey := HC.out.1 rfl
          go_wp2_with fail
          go_roundg (l.length - (i + 1))
          case measure => omega
          case rel => exact ⟨i + 1, by go_num, by omega, by omega, rfl, Lib.hid ⟨take_succ_eq HR.out.1 hlt hlt' hkey, HS.out⟩⟩
        · go_wp2_with fail
          go_ret
          exact ⟨⟨c, rfl, by omega, by omega, ⟨fun e => absurd e h0, fun e => by subst e; exact absurd (HC.out.2 rfl) h0⟩⟩, HS.out⟩
      · go_wp2_with fail
        go_ret
        exact ⟨⟨_, rfl, by omega, by omega, take_eq_end HR.out.1 ⟨hi, hi'⟩ (by omega)⟩, HR.out.2⟩
    · go_wp2_with fail
      go_ret
      exact ⟨⟨_, rfl, by omega, by omega, take_eq_end HR.out.1 ⟨hi, hi'⟩ (by omega)⟩, HR.out.2⟩

/-- What the order says of two good values. -/
def CmpPost (x y : RV) (w : World) (e : Ending) (w' : World) : Prop := (∃ c : Int, e = .returned (.int .i64 c) ∧ -1 ≤ c ∧ c ≤ 1 ∧ (c = 0 ↔ x = y)) ∧ Below w.heap.size w w'

def CmpIH (n : Nat) : Prop := ∀ (x y : RV) (va vb : Value) (w : World), x.nodes ≤ n → x.Good → y.Good → x.Rep w va → y.Rep w vb → Calls Tryz.prog 40 #[va, vb] w (CmpPost x y w)

set_option maxRecDepth 100000 in
set_option maxHeartbeats 1600000 in
theorem lists_any (n : Nat) (ih : CmpIH n) (a b : Option Addr) (ca cb : Nat) (l l' : List RV) (w : World) (hn : RV.nodesL l ≤ n) (hg : RV.GoodL l) (hg' : RV.GoodL l') (hl : l.length ≤ reachN) (hl' : l'.length ≤ reachN)
    (h1 : RV.RepL w a 0 l) (h2 : RV.RepL w b 0 l') :
    Calls Tryz.prog 81 #[.slice a l.length ca, .slice b l'.length cb] w fun e w' => (∃ c : Int, e = .returned (.int .i64 c) ∧ -reachN ≤ c ∧ c ≤ reachN ∧ (c = 0 ↔ l = l')) ∧ Below w.heap.size w w' := by
  have H1 := Lib.hid h1
  have H2 := Lib.hid h2
  have HG := Lib.hid (And.intro hg hg')
  have HN := Lib.hid hn
  have HIH := Lib.hid ih
  clear h1 h2 hg hg' hn ih
  unfold reachN at hl hl' ⊢
  go_enter Tryz.func81, Tryz.ntmps81
  go_wp2_with fail
  go_loopg [5] (l.length) (fun gk s5 wr => ∃ i : Nat, s5 = .int .i64 i ∧ i ≤ l.length ∧ i ≤ l'.length ∧ gk = l.length - i ∧ Hid (l.take i = l'.take i ∧ Below w.heap.size w wr))
  case atStart => exact ⟨0, rfl, Nat.zero_le _, Nat.zero_le _, rfl, Lib.hid ⟨by simp, Below.refl _ _⟩⟩
  case round =>
    obtain ⟨i, rfl, hi, hi', rfl, HR⟩ := hrel
    by_cases hlt : i < l.length
    · by_cases hlt' : i < l'.length
      · obtain ⟨ab, ao, x0, x1, x2, x3, x4, x5, rfl, ga0, ga1, ga2, ga3, ga4, ga5, hra⟩ := (H1.out.below HR.out.2).get i hlt
        obtain ⟨bb, bo, y0, y1, y2, y3, y4, y5, rfl, gb0, gb1, gb2, gb3, gb4, gb5, hrb⟩ := (H2.out.below HR.out.2).get i hlt'
        simp only [Nat.zero_add] at ga0 ga1 ga2 ga3 ga4 ga5 gb0 gb1 gb2 gb3 gb4 gb5
        have hj1 : (i : Int) < (l.length : Int) := by omega
        have hj2 : (i : Int) < (l'.length : Int) := by omega
        have HS := Lib.hid HR.out.2.drew
        have HRA := Lib.hid (hra.below (Below.refl _ wr).drew)
        have HRB := Lib.hid (hrb.below (Below.refl _ wr).drew)
        clear hi hi' hra hrb
        go_wp2_with fail
        refine wp_region_still_tail 8 (by kernel_rfl) (by kernel_rfl) ?_
        simp only [List.take_succ_cons, List.take_zero, List.drop_succ_cons, List.drop_zero]
        iterate 8 with_reducible still_step
        with_reducible refine wpStill_nil ?_
        change wpList _ _ _ _ _ (World.drew wr)
        generalize wr.drew = w2 at HS HRA HRB ⊢
        go_wp2_with (go_at_call 40; refine (HIH.out l[i] l'[i] _ _ _ (by have := RV.nodes_le hlt; have := HN.out; omega) (HG.out.1.get i hlt) (HG.out.2.get i hlt') HRA.out HRB.out).mono ?_; rintro e w3 ⟨⟨c, rfl, hc1, hc2, hc⟩, hb3⟩; have HB3 := Lib.hid (HS.out.trans (hb3.mono HS.out.size)); have HC := Lib.hid hc; clear hc hb3; by_cases h0 : c = 0)
        · subst h0
          have hkey := HC.out.1 rfl
          go_wp2_with fail
          go_roundg (l.length - (i + 1))
          case measure => omega
          case rel => exact ⟨i + 1, by go_num, by omega, by omega, rfl, Lib.hid ⟨take_succ_eq HR.out.1 hlt hlt' hkey, HB3.out⟩⟩
        · go_wp2_with fail
          go_ret
          exact ⟨⟨c, rfl, by omega, by omega, ⟨fun e => absurd e h0, fun e => by subst e; exact absurd (HC.out.2 rfl) h0⟩⟩, HB3.out⟩
      · go_wp2_with fail
        go_ret
        exact ⟨⟨_, rfl, by omega, by omega, take_eq_end HR.out.1 ⟨hi, hi'⟩ (by omega)⟩, HR.out.2⟩
    · go_wp2_with fail
      go_ret
      exact ⟨⟨_, rfl, by omega, by omega, take_eq_end HR.out.1 ⟨hi, hi'⟩ (by omega)⟩, HR.out.2⟩

theorem RV.Good.rest {k h : Int} {t : ByteArray} {l : List RV} {ks : List ByteArray} {vs : List RV} (g : (RV.mk k h t l ks vs).Good) :
    (k ≠ 3 → h = 0) ∧ (k ≠ 4 → t = ByteArray.empty) ∧ (k ≠ 5 → l = []) ∧ (k ≠ 6 → ks = [] ∧ vs = []) ∧ 0 ≤ k ∧ k ≤ 6 ∧ -18014398509481984 ≤ h ∧ h ≤ 18014398509481984 ∧ RV.GoodL l ∧ RV.GoodL vs := by
  unfold RV.Good at g
  obtain ⟨g1, g2, g3, g4, g5, g6, g7, g8, g9, g10, g11, g12, g13, g14, g15⟩ := g
  refine ⟨fun e => g3.resolve_left e, fun e => g4.resolve_left e, fun e => g5.resolve_left e, fun e => ?_, g1, g2, g8, g9, g12, g15⟩
  have := g6.resolve_left e
  subst this
  exact ⟨rfl, List.eq_nil_of_length_eq_zero g7.symm⟩

set_option maxRecDepth 100000 in
set_option maxHeartbeats 4000000 in
theorem cmp_all : ∀ n, CmpIH n := by
  intro n
  induction n with
  | zero => intro x y va vb w hn; have := RV.nodes_pos x; omega
  | succ n ih =>
    intro x y va vb w hn hg hg' hx hy
    obtain ⟨k, h, t, l, ks, vs⟩ := x
    obtain ⟨k', h', t', l', ks', vs'⟩ := y
    have hnl : RV.nodesL l ≤ n := by unfold RV.nodes at hn; omega
    have hnv : RV.nodesL vs ≤ n := by unfold RV.nodes at hn; omega
    unfold RV.Rep at hx hy
    obtain ⟨al, cl, ak, ck, av, cv, rfl, -, -, -, hll, hlk, hlv, hrl, hrk, hrv⟩ := hx
    obtain ⟨al', cl', ak', ck', av', cv', rfl, -, -, -, hll', hlk', hlv', hrl', hrk', hrv'⟩ := hy
    obtain ⟨r3, r4, r5, r6, hk0, hk6, hh0, hh1, gl, gv⟩ := hg.rest
    obtain ⟨r3', r4', r5', r6', hk0', hk6', hh0', hh1', gl', gv'⟩ := hg'.rest
    have HL := Lib.hid (And.intro hrl hrl')
    have HK := Lib.hid (And.intro hrk hrk')
    have HV := Lib.hid (And.intro hrv hrv')
    have HGL := Lib.hid (And.intro gl gl')
    have HGV := Lib.hid (And.intro gv gv')
    have HR := Lib.hid (And.intro (And.intro r3 (And.intro r4 (And.intro r5 r6))) (And.intro r3' (And.intro r4' (And.intro r5' r6'))))
    have HN := Lib.hid (And.intro hnl hnv)
    have HIH := Lib.hid ih
    have HLEN := Lib.hid (And.intro (And.intro hll hll') (And.intro (And.intro hlk hlk') (And.intro hlv hlv')))
    clear hrl hrl' hrk hrk' hrv hrv' gl gl' gv gv' r3 r3' r4 r4' r5 r5' r6 r6' hnl hnv hn ih hg hg' hll hll' hlk hlk' hlv hlv'
    unfold CmpPost
    have hB2 : ∀ a b : Obj, Below w.heap.size w ((w.alloc a).alloc b) := fun a b => ((Below.refl w.heap.size w).alloc (Nat.le_refl _) a).alloc (by simp) b
    have HB2 := Lib.hid hB2
    clear hB2
    by_cases hk : k = k'
    · subst hk
      by_cases k3 : k = 3
      · subst k3
        go_enter Tryz.func40, Tryz.ntmps40
        go_wp2_with (go_at_call 79; refine (sign_any _ _).mono ?_; rintro e w3 ⟨rfl, rfl⟩)
        go_ret
        have hs := signOf_range (h - h')
        refine ⟨⟨_, rfl, hs.1, hs.2.1, hs.2.2.trans ⟨fun e => ?_, fun e => by injection e; omega⟩⟩, HB2.out _ _⟩
        obtain ⟨⟨-, a4, a5, a6⟩, ⟨-, b4, b5, b6⟩⟩ := HR.out
        have : h = h' := by omega
        subst this
        rw [a4 (by decide), b4 (by decide), a5 (by decide), b5 (by decide), (a6 (by decide)).1, (b6 (by decide)).1, (a6 (by decide)).2, (b6 (by decide)).2]
      · by_cases k4 : k = 4
        · subst k4
          go_enter Tryz.func40, Tryz.ntmps40
          go_wp2_with (go_at_call 80; refine (texts_any _ _ _).mono ?_; rintro e w3 ⟨⟨c, rfl, hc1, hc2, hc⟩, rfl⟩; have HC := Lib.hid hc; clear hc)
          go_ret
          refine ⟨⟨c, rfl, hc1, hc2, HC.out.trans ⟨fun e => ?_, fun e => by injection e⟩⟩, HB2.out _ _⟩
          obtain ⟨⟨a3, -, a5, a6⟩, ⟨b3, -, b5, b6⟩⟩ := HR.out
          subst e
          rw [a3 (by decide), b3 (by decide), a5 (by decide), b5 (by decide), (a6 (by decide)).1, (b6 (by decide)).1, (a6 (by decide)).2, (b6 (by decide)).2]
        · by_cases k5 : k = 5
          · subst k5
            go_enter Tryz.func40, Tryz.ntmps40
            go_wp2_with (first | (go_at_call 81; refine (lists_any n HIH.out _ _ _ _ _ _ _ HN.out.1 HGL.out.1 HGL.out.2 HLEN.out.1.1 HLEN.out.1.2 (HL.out.1.below (HB2.out _ _)) (HL.out.2.below (HB2.out _ _))).mono ?_; rintro e w3 ⟨⟨c, rfl, hc1, hc2, hc⟩, hb3⟩; unfold reachN at hc1 hc2; have HC := Lib.hid hc; have HB3 := Lib.hid ((HB2.out _ _).trans (hb3.mono (by simp; omega))); clear hc hb3) | (go_at_call 79; refine (sign_any _ _).mono ?_; rintro e w4 ⟨rfl, rfl⟩))
            go_ret
            have hs := signOf_range c
            refine ⟨⟨_, rfl, hs.1, hs.2.1, (hs.2.2.trans HC.out).trans ⟨fun e => ?_, fun e => by injection e⟩⟩, HB3.out⟩
            obtain ⟨⟨a3, a4, -, a6⟩, ⟨b3, b4, -, b6⟩⟩ := HR.out
            subst e
            rw [a3 (by decide), b3 (by decide), a4 (by decide), b4 (by decide), (a6 (by decide)).1, (b6 (by decide)).1, (a6 (by decide)).2, (b6 (by decide)).2]
          · by_cases k6 : k = 6
            · subst k6
              go_enter Tryz.func40, Tryz.ntmps40
              go_wp2_with fail
              refine (keys_any _ _ _ _ _ _ _ HLEN.out.2.1.1 HLEN.out.2.1.2 (HK.out.1.below (HB2.out _ _)) (HK.out.2.below (HB2.out _ _))).mono ?_
              rintro e w3 ⟨⟨c, rfl, hc1, hc2, hc⟩, hb3⟩
              unfold reachN at hc1 hc2
              have HC := Lib.hid hc
              have HB3 := Lib.hid ((HB2.out _ _).trans (hb3.mono (by simp; omega)))
              obtain ⟨hcell, -⟩ := bcell hb3
              clear hc hb3
              by_cases h0 : c = 0
              · subst h0
                have E2 := Lib.hid (HC.out.1 rfl)
                clear HC
                go_wp2_with (first | (go_at_call 81; refine (lists_any n HIH.out _ _ _ _ _ _ _ HN.out.2 HGV.out.1 HGV.out.2 HLEN.out.2.2.1 HLEN.out.2.2.2 (HV.out.1.below HB3.out) (HV.out.2.below HB3.out)).mono ?_; rintro e w4 ⟨⟨c, rfl, hc1, hc2, hc⟩, hb4⟩; unfold reachN at hc1 hc2; have HC4 := Lib.hid hc; have HB4 := Lib.hid (HB3.out.trans (hb4.mono HB3.out.size)); clear hc hb4) | (go_at_call 79; refine (sign_any _ _).mono ?_; rintro e w5 ⟨rfl, rfl⟩))
                go_ret
                have hs := signOf_range c
                refine ⟨⟨_, rfl, hs.1, hs.2.1, (hs.2.2.trans HC4.out).trans ⟨fun e => ?_, fun e => by injection e⟩⟩, HB4.out⟩
                obtain ⟨⟨a3, a4, a5, -⟩, ⟨b3, b4, b5, -⟩⟩ := HR.out
                have e2 := E2.out
                subst e
                subst e2
                rw [a3 (by decide), b3 (by decide), a4 (by decide), b4 (by decide), a5 (by decide), b5 (by decide)]
              · go_wp2_with (go_at_call 79; refine (sign_any _ _).mono ?_; rintro e w5 ⟨rfl, rfl⟩)
                go_ret
                have hs := signOf_range c
                refine ⟨⟨_, rfl, hs.1, hs.2.1, (hs.2.2.trans HC.out).trans ⟨fun e => ?_, fun e => by injection e⟩⟩, HB3.out⟩
                exact absurd (HC.out.2 e) h0
            · go_enter Tryz.func40, Tryz.ntmps40
              go_wp2_with fail
              go_ret
              refine ⟨⟨0, rfl, by omega, by omega, ⟨fun _ => ?_, fun _ => rfl⟩⟩, HB2.out _ _⟩
              obtain ⟨⟨a3, a4, a5, a6⟩, ⟨b3, b4, b5, b6⟩⟩ := HR.out
              rw [a3 k3, b3 k3, a4 k4, b4 k4, a5 k5, b5 k5, (a6 k6).1, (b6 k6).1, (a6 k6).2, (b6 k6).2]
    · go_enter Tryz.func40, Tryz.ntmps40
      go_wp2_with (go_at_call 79; refine (sign_any _ _).mono ?_; rintro e w3 ⟨rfl, rfl⟩)
      go_ret
      have hs := signOf_range (k - k')
      exact ⟨⟨_, rfl, hs.1, hs.2.1, hs.2.2.trans ⟨fun e => by omega, fun e => by injection e; omega⟩⟩, HB2.out _ _⟩

set_option maxRecDepth 100000 in
theorem same_any (x y : RV) (va vb : Value) (w : World) (hg : x.Good) (hg' : y.Good) (hx : x.Rep w va) (hy : y.Rep w vb) :
    Calls Tryz.prog 15 #[va, vb] w fun e w' => (∃ b, e = .returned (.bool b) ∧ (b = true ↔ x = y)) ∧ Below w.heap.size w w' := by
  have hB2 : ∀ a b : Obj, Below w.heap.size w ((w.alloc a).alloc b) := fun a b => ((Below.refl w.heap.size w).alloc (Nat.le_refl _) a).alloc (by simp) b
  have hC := fun (wx : World) (hb : Below w.heap.size w wx) => cmp_all x.nodes x y va vb wx (Nat.le_refl _) hg hg' (hx.below hb) (hy.below hb)
  obtain ⟨k, h, t, l, ks, vs⟩ := x
  obtain ⟨k', h', t', l', ks', vs'⟩ := y
  unfold RV.Rep at hx hy
  obtain ⟨al, cl, ak, ck, av, cv, rfl, -, -, -, hll, hlk, hlv, hrl, hrk, hrv⟩ := hx
  obtain ⟨al', cl', ak', ck', av', cv', rfl, -, -, -, hll', hlk', hlv', hrl', hrk', hrv'⟩ := hy
  clear hrl hrl' hrk hrk' hrv hrv' hg hg' hll hll' hlk hlk' hlv hlv'
  have HB2 := Lib.hid hB2
  have HC := Lib.hid hC
  clear hB2 hC
  go_enter Tryz.func15, Tryz.ntmps15
  go_wp2_with (go_at_call 40; refine (HC.out _ (HB2.out _ _)).mono ?_; rintro e w3 ⟨⟨c, rfl, hc1, hc2, hc⟩, hb3⟩; have HD := Lib.hid hc; have HB3 := Lib.hid ((HB2.out _ _).trans (hb3.mono (by simp; omega))); clear hc hb3)
  go_ret
  exact ⟨⟨_, rfl, by simpa using HD.out⟩, HB3.out⟩
end Go.Proofs.YtjpcdbopioblaaaGreatDoor

/- The JSON texts of two good trees are the same only if the trees are: plain. -/
namespace Go.Proofs.YtjpcdbopioblaaaGreatDoor
open Go.RowKit

/-- What may stand behind a value's text. -/
def Ends : List UInt8 → Prop
  | [] => True
  | c :: _ => c = 44 ∨ c = 93 ∨ c = 125
/-- A byte of a number. -/
def numC (c : UInt8) : Bool := c == 45 || c == 46 || (decide (48 ≤ c.toNat) && decide (c.toNat ≤ 57))
theorem num_cut : ∀ {l m r s : List UInt8}, (∀ c ∈ l, numC c = true) → (∀ c ∈ m, numC c = true) → Ends r → Ends s → l ++ r = m ++ s → l = m ∧ r = s
  | [], [], _, _, _, _, _, _, he => ⟨rfl, he⟩
  | [], c :: m, r, s, _, hm, er, _, he => by
    have h := hm c (by simp)
    rw [List.nil_append] at he
    rw [he] at er
    rcases er with e | e | e <;> (rw [e] at h; exact absurd h (by decide))
  | c :: l, [], r, s, hl, _, _, es, he => by
    have h := hl c (by simp)
    rw [List.nil_append] at he
    rw [← he] at es
    rcases es with e | e | e <;> (rw [e] at h; exact absurd h (by decide))
  | c :: l, d :: m, r, s, hl, hm, er, es, he => by
    rw [List.cons_append, List.cons_append] at he
    injection he with e1 e2
    have h := num_cut (fun c hc => hl c (by simp [hc])) (fun c hc => hm c (by simp [hc])) er es e2
    exact ⟨by rw [e1, h.1], h.2⟩

/-! Numbers -/
theorem digText_dig {n : Nat} {c : UInt8} (h : c ∈ digText n) : 48 ≤ c.toNat ∧ c.toNat ≤ 57 := by
  unfold digText at h
  obtain ⟨d, hd, rfl⟩ := List.mem_map.1 h
  have := digs_dig n d hd
  rw [UInt8.toNat_ofNat']
  omega
theorem map_dig_inj : ∀ {l m : List Nat}, (∀ d ∈ l, d < 10) → (∀ d ∈ m, d < 10) → (l.map fun d => UInt8.ofNat (48 + d)) = (m.map fun d => UInt8.ofNat (48 + d)) → l = m
  | [], [], _, _, _ => rfl
  | [], _ :: _, _, _, h => by cases h
  | _ :: _, [], _, _, h => by cases h
  | c :: l, d :: m, hl, hm, h => by
    rw [List.map_cons, List.map_cons] at h
    injection h with h1 h2
    have h3 := congrArg UInt8.toNat h1
    rw [UInt8.toNat_ofNat', UInt8.toNat_ofNat'] at h3
    have h4 := hl c (by simp)
    have h5 := hm d (by simp)
    obtain rfl : c = d := by omega
    rw [map_dig_inj (fun x hx => hl x (by simp [hx])) (fun x hx => hm x (by simp [hx])) h2]
theorem digText_inj {n m : Nat} (h : digText n = digText m) : n = m := by
  have h2 : dig n = dig m := map_dig_inj (digs_dig n) (digs_dig m) h
  rw [← numL_dig n, ← numL_dig m, h2]
/-- A number's text in three parts. -/
theorem numT_parts (h : Int) : numT h = (if h < 0 then [45] else []) ++ (digText (h.natAbs / 2) ++ (if h % 2 = 0 then [] else [46, 53])) := by
  unfold numT
  by_cases h0 : h.tmod 2 = 0
  · have e := Int.mul_tdiv_add_tmod h 2
    have h2 : h % 2 = 0 := by omega
    rw [if_pos h0, if_pos h2, List.append_nil]
    unfold intText
    congr 1
    · split <;> split <;> first | rfl | omega
    · congr 1
      omega
  · have h2 : h % 2 ≠ 0 := fun e => h0 (Int.tmod_eq_zero_of_dvd (Int.dvd_of_emod_eq_zero e))
    rw [if_neg h0, if_neg h2]
    unfold numBytes numTxt digText
    rw [List.map_append, List.map_append, List.append_assoc, if_pos (show h.natAbs % 2 = 1 by omega), List.map_map]
    congr 1
    by_cases h3 : h < 0
    · simp [h3]
    · simp [h3]
theorem numT_num {h : Int} : ∀ c ∈ numT h, numC c = true := by
  intro c hc
  rw [numT_parts] at hc
  rcases List.mem_append.1 hc with hc | hc
  · split at hc
    · rw [List.mem_singleton.1 hc]; decide
    · cases hc
  · rcases List.mem_append.1 hc with hc | hc
    · have := digText_dig hc
      unfold numC
      simp [this.1, this.2]
    · split at hc
      · cases hc
      · rcases List.mem_cons.1 hc with e | hc
        · rw [e]; decide
        · rw [List.mem_singleton.1 hc]; decide
theorem digText_ne (n : Nat) : digText n ≠ [] := by
  unfold digText
  intro e
  exact dig_ne n (List.map_eq_nil_iff.1 e)
theorem numT_ne (h : Int) : numT h ≠ [] := by
  rw [numT_parts]
  intro e
  exact digText_ne _ (List.append_eq_nil_iff.1 (List.append_eq_nil_iff.1 e).2).1
theorem frac_cut {n m : Nat} {p q : Prop} [Decidable p] [Decidable q] (h : digText n ++ (if p then [] else [46, 53]) = digText m ++ (if q then [] else [46, 53])) : n = m ∧ (p ↔ q) := by
  by_cases hp : p
  · by_cases hq : q
    · rw [if_pos hp, if_pos hq, List.append_nil, List.append_nil] at h
      exact ⟨digText_inj h, by simp [hp, hq]⟩
    · rw [if_pos hp, if_neg hq, List.append_nil] at h
      have : (46 : UInt8) ∈ digText n := by rw [h]; simp
      exact absurd (digText_dig this).1 (by decide)
  · by_cases hq : q
    · rw [if_neg hp, if_pos hq, List.append_nil] at h
      have : (46 : UInt8) ∈ digText m := by rw [← h]; simp
      exact absurd (digText_dig this).1 (by decide)
    · rw [if_neg hp, if_neg hq] at h
      exact ⟨digText_inj (List.append_cancel_right h), by simp [hp, hq]⟩
theorem dig_no_minus {n : Nat} {f g : List UInt8} (h : digText n ++ f = 45 :: g) : False := by
  cases hd : digText n with
  | nil => exact digText_ne n hd
  | cons c l =>
    rw [hd, List.cons_append] at h
    injection h with h1 _
    have := digText_dig (n := n) (c := c) (by rw [hd]; simp)
    rw [h1] at this
    exact absurd this.1 (by decide)
theorem numT_inj {h k : Int} (e : numT h = numT k) : h = k := by
  rw [numT_parts, numT_parts] at e
  by_cases h0 : h < 0
  · by_cases k0 : k < 0
    · rw [if_pos h0, if_pos k0] at e
      have := frac_cut (List.append_cancel_left e)
      omega
    · rw [if_pos h0, if_neg k0] at e
      exact (dig_no_minus e.symm).elim
  · by_cases k0 : k < 0
    · rw [if_neg h0, if_pos k0] at e
      exact (dig_no_minus e).elim
    · rw [if_neg h0, if_neg k0] at e
      have := frac_cut e
      omega

/-! Strings -/
def unesc (e : UInt8) : UInt8 := if e = 98 then 8 else if e = 102 then 12 else if e = 110 then 10 else if e = 114 then 13 else if e = 116 then 9 else e
def unhex (e : UInt8) : Nat := if e.toNat < 58 then e.toNat - 48 else e.toNat - 87
def shapeB (c : UInt8) : Bool := match encB c with
  | [x] => x == c && !(c == 92) && !(c == 34)
  | [x, e] => x == 92 && !(e == 117) && unesc e == c
  | [x, y, z, u, a, b] => x == 92 && y == 117 && z == 48 && u == 48 && UInt8.ofNat (unhex a * 16 + unhex b) == c
  | _ => false
theorem shapeB_all : ((List.range 256).all fun n => shapeB (UInt8.ofNat n)) = true := by decide +kernel
theorem encB_shape (c : UInt8) : (encB c = [c] ∧ c ≠ 92 ∧ c ≠ 34) ∨ (∃ e, encB c = [92, e] ∧ e ≠ 117 ∧ unesc e = c) ∨ (∃ a b, encB c = [92, 117, 48, 48, a, b] ∧ UInt8.ofNat (unhex a * 16 + unhex b) = c) := by
  have h := List.all_eq_true.1 shapeB_all c.toNat (by simpa using c.toNat_lt)
  rw [UInt8.ofNat_toNat] at h
  unfold shapeB at h
  split at h
  · rename_i x e
    simp only [Bool.and_eq_true, beq_iff_eq, Bool.not_eq_true', beq_eq_false_iff_ne] at h
    exact .inl ⟨by rw [e, h.1.1], h.1.2, h.2⟩
  · rename_i x e' e
    simp only [Bool.and_eq_true, beq_iff_eq, Bool.not_eq_true', beq_eq_false_iff_ne] at h
    exact .inr (.inl ⟨e', by rw [e, h.1.1], h.1.2, h.2⟩)
  · rename_i x y z u a b e
    simp only [Bool.and_eq_true, beq_iff_eq] at h
    exact .inr (.inr ⟨a, b, by rw [e, h.1.1.1.1, h.1.1.1.2, h.1.1.2, h.1.2], h.2⟩)
  · cases h
theorem encB_cut {c d : UInt8} {r s : List UInt8} (h : encB c ++ r = encB d ++ s) : c = d ∧ r = s := by
  rcases encB_shape c with ⟨e, h1, h2⟩ | ⟨x, e, h1, h2⟩ | ⟨a, b, e, h1⟩ <;> rcases encB_shape d with ⟨f, k1, k2⟩ | ⟨y, f, k1, k2⟩ | ⟨a', b', f, k1⟩ <;> rw [e, f] at h <;>
    simp only [List.cons_append, List.nil_append, List.cons.injEq] at h
  · exact h
  · exact absurd h.1 h1
  · exact absurd h.1 h1
  · exact absurd h.1.symm k1
  · exact ⟨by rw [← h2, ← k2, h.2.1], h.2.2⟩
  · exact absurd h.2.1 h1
  · exact absurd h.1.symm k1
  · exact absurd h.2.1.symm k1
  · exact ⟨by rw [← h1, ← k1, h.2.2.2.2.1, h.2.2.2.2.2.1], h.2.2.2.2.2.2⟩
theorem encB_no_quote {c : UInt8} {r s : List UInt8} (h : encB c ++ r = 34 :: s) : False := by
  rcases encB_shape c with ⟨e, h1, h2⟩ | ⟨x, e, h1, h2⟩ | ⟨a, b, e, h1⟩ <;> rw [e] at h <;> simp only [List.cons_append, List.nil_append, List.cons.injEq] at h
  · exact h2 h.1
  · exact absurd h.1 (by decide)
  · exact absurd h.1 (by decide)
theorem str_cut : ∀ {t u r s : List UInt8}, t.flatMap encB ++ 34 :: r = u.flatMap encB ++ 34 :: s → t = u ∧ r = s
  | [], [], _, _, h => by simpa using h
  | [], d :: u, _, _, h => by
    rw [List.flatMap_cons, List.append_assoc] at h
    exact (encB_no_quote h.symm).elim
  | c :: t, [], _, _, h => by
    rw [List.flatMap_cons, List.append_assoc] at h
    exact (encB_no_quote h).elim
  | c :: t, d :: u, _, _, h => by
    rw [List.flatMap_cons, List.append_assoc, List.flatMap_cons, List.append_assoc] at h
    obtain ⟨rfl, h2⟩ := encB_cut h
    have := str_cut h2
    exact ⟨by rw [this.1], this.2⟩
theorem strT_cut {t u : ByteArray} {r s : List UInt8} (h : strT t ++ r = strT u ++ s) : t = u ∧ r = s := by
  unfold strT at h
  simp only [List.cons_append, List.append_assoc, List.nil_append, List.cons.injEq, true_and] at h
  obtain ⟨h1, h2⟩ := str_cut h
  exact ⟨ByteArray.ext (Array.toList_inj.1 h1), h2⟩

/-! Trees -/
/-- The kind that a first byte tells. -/
def kindC (c : UInt8) : Int := if c = 110 then 0 else if c = 102 then 1 else if c = 116 then 2 else if c = 34 then 4 else if c = 91 then 5 else if c = 123 then 6 else if numC c then 3 else -1
theorem kindC_num : ((List.range 256).all fun n => !(numC (UInt8.ofNat n)) || kindC (UInt8.ofNat n) == 3) = true := by decide +kernel
theorem kindC_of_num {c : UInt8} (h : numC c = true) : kindC c = 3 := by
  have h1 := List.all_eq_true.1 kindC_num c.toNat (by simpa using c.toNat_lt)
  rw [UInt8.ofNat_toNat, h] at h1
  simpa using h1
theorem txt_head : ∀ {x : RV}, x.Good → ∃ c r, x.txt = c :: r ∧ kindC c = x.kd
  | .mk k h t l ks vs, hg => by
    obtain ⟨-, -, -, -, h0, h6, -⟩ := hg.rest
    unfold RV.txt
    show ∃ c r, _ ∧ kindC c = k
    by_cases k0 : k = 0
    · subst k0; exact ⟨110, _, rfl, by decide⟩
    rw [if_neg k0]
    by_cases k1 : k = 1
    · subst k1; exact ⟨102, _, rfl, by decide⟩
    rw [if_neg k1]
    by_cases k2 : k = 2
    · subst k2; exact ⟨116, _, rfl, by decide⟩
    rw [if_neg k2]
    by_cases k3 : k = 3
    · subst k3
      rw [if_pos rfl]
      cases e : numT h with
      | nil => exact absurd e (numT_ne h)
      | cons c r => exact ⟨c, r, rfl, kindC_of_num (numT_num c (by rw [e]; simp))⟩
    rw [if_neg k3]
    by_cases k4 : k = 4
    · subst k4; exact ⟨34, _, rfl, by decide⟩
    rw [if_neg k4]
    by_cases k5 : k = 5
    · subst k5; exact ⟨91, _, rfl, by decide⟩
    rw [if_neg k5]
    obtain rfl : k = 6 := by omega
    exact ⟨123, _, rfl, by decide⟩
theorem good_kd {x : RV} (h : x.Good) : 0 ≤ x.kd := by
  obtain ⟨k, h', t, l, ks, vs⟩ := x
  exact h.rest.2.2.2.2.1
theorem txt_not {x : RV} {c : UInt8} {r s : List UInt8} (hg : x.Good) (hc : kindC c < 0) (h : c :: r = x.txt ++ s) : False := by
  obtain ⟨d, r', e, hk⟩ := txt_head hg
  rw [e, List.cons_append] at h
  injection h with h1 _
  rw [h1, hk] at hc
  have := good_kd hg
  omega
theorem txt_kind {x y : RV} {r s : List UInt8} (hx : x.Good) (hy : y.Good) (h : x.txt ++ r = y.txt ++ s) : x.kd = y.kd := by
  obtain ⟨c, r', e, hk⟩ := txt_head hx
  obtain ⟨d, s', f, hl⟩ := txt_head hy
  rw [e, f, List.cons_append, List.cons_append] at h
  injection h with h1 _
  rw [← hk, ← hl, h1]
theorem ends_txtC (l : List RV) (r : List UInt8) : Ends (RV.txtC l ++ 93 :: r) := by
  cases l with
  | nil => exact .inr (.inl rfl)
  | cons x l => unfold RV.txtC; exact .inl rfl
theorem ends_txtM (ks : List ByteArray) (l : List RV) (r : List UInt8) : Ends (RV.txtM ks l ++ 125 :: r) := by
  cases l with
  | nil => exact .inr (.inr rfl)
  | cons x l => unfold RV.txtM; exact .inl rfl
mutual
theorem txt_cut : ∀ {x y : RV} {r s : List UInt8}, x.Good → y.Good → Ends r → Ends s → x.txt ++ r = y.txt ++ s → x = y ∧ r = s
  | .mk k h t l ks vs, .mk k' h' t' l' ks' vs', r, s, hx, hy, er, es, he => by
    obtain rfl : k = k' := txt_kind hx hy he
    obtain ⟨x3, x4, x5, x6, x0, x7, -, -, xl, xv⟩ := hx.rest
    obtain ⟨y3, y4, y5, y6, -, -, -, -, yl, yv⟩ := hy.rest
    have xk := hx.keys
    have yk := hy.keys
    unfold RV.txt at he
    by_cases k3 : k = 3
    · subst k3
      obtain ⟨e, hr⟩ := num_cut numT_num numT_num er es he
      have := numT_inj e
      rw [x4 (by decide), x5 (by decide), (x6 (by decide)).1, (x6 (by decide)).2, y4 (by decide), y5 (by decide), (y6 (by decide)).1, (y6 (by decide)).2, this]
      exact ⟨rfl, hr⟩
    rw [x3 k3, y3 k3]
    by_cases k4 : k = 4
    · subst k4
      obtain ⟨e, hr⟩ := strT_cut he
      rw [x5 (by decide), (x6 (by decide)).1, (x6 (by decide)).2, y5 (by decide), (y6 (by decide)).1, (y6 (by decide)).2, e]
      exact ⟨rfl, hr⟩
    rw [x4 k4, y4 k4]
    by_cases k5 : k = 5
    · subst k5
      rw [(x6 (by decide)).1, (x6 (by decide)).2, (y6 (by decide)).1, (y6 (by decide)).2]
      have h2 : (RV.txtC l).drop 1 ++ 93 :: r = (RV.txtC l').drop 1 ++ 93 :: s := by simpa using he
      obtain ⟨e, hr⟩ := txtC_cut0 xl yl h2
      exact ⟨by rw [e], hr⟩
    rw [x5 k5, y5 k5]
    by_cases k6 : k = 6
    · subst k6
      have h2 : (RV.txtM ks vs).drop 1 ++ 125 :: r = (RV.txtM ks' vs').drop 1 ++ 125 :: s := by simpa using he
      obtain ⟨e, e2, hr⟩ : vs = vs' ∧ ks = ks' ∧ r = s := txtM_cut0 xk.2.1 yk.2.1 xv yv h2
      exact ⟨by rw [e, e2], hr⟩
    rw [(x6 k6).1, (x6 k6).2, (y6 k6).1, (y6 k6).2]
    have : k = 0 ∨ k = 1 ∨ k = 2 := by omega
    refine ⟨rfl, ?_⟩
    rcases this with rfl | rfl | rfl <;> simpa using he
theorem txtC_cut0 : ∀ {l m : List RV} {r s : List UInt8}, RV.GoodL l → RV.GoodL m → (RV.txtC l).drop 1 ++ 93 :: r = (RV.txtC m).drop 1 ++ 93 :: s → l = m ∧ r = s
  | [], [], _, _, _, _, h => by simpa [RV.txtC] using h
  | [], y :: m, r, s, _, hm, h => by
    unfold RV.GoodL at hm
    have h2 : 93 :: r = y.txt ++ (RV.txtC m ++ 93 :: s) := by simpa [RV.txtC] using h
    exact (txt_not hm.1 (by decide) h2).elim
  | x :: l, [], r, s, hl, _, h => by
    unfold RV.GoodL at hl
    have h2 : x.txt ++ (RV.txtC l ++ 93 :: r) = 93 :: s := by simpa [RV.txtC] using h
    exact (txt_not hl.1 (by decide) h2.symm).elim
  | x :: l, y :: m, r, s, hl, hm, h => by
    unfold RV.GoodL at hl hm
    have h2 : x.txt ++ (RV.txtC l ++ 93 :: r) = y.txt ++ (RV.txtC m ++ 93 :: s) := by simpa [RV.txtC] using h
    obtain ⟨rfl, h3⟩ := txt_cut hl.1 hm.1 (ends_txtC l r) (ends_txtC m s) h2
    obtain ⟨rfl, h4⟩ := txtC_cut hl.2 hm.2 h3
    exact ⟨rfl, h4⟩
theorem txtC_cut : ∀ {l m : List RV} {r s : List UInt8}, RV.GoodL l → RV.GoodL m → RV.txtC l ++ 93 :: r = RV.txtC m ++ 93 :: s → l = m ∧ r = s
  | [], [], _, _, _, _, h => by simpa [RV.txtC] using h
  | [], y :: m, _, _, _, _, h => by simp [RV.txtC] at h
  | x :: l, [], _, _, _, _, h => by simp [RV.txtC] at h
  | x :: l, y :: m, r, s, hl, hm, h => by
    unfold RV.GoodL at hl hm
    have h2 : x.txt ++ (RV.txtC l ++ 93 :: r) = y.txt ++ (RV.txtC m ++ 93 :: s) := by simpa [RV.txtC] using h
    obtain ⟨rfl, h3⟩ := txt_cut hl.1 hm.1 (ends_txtC l r) (ends_txtC m s) h2
    obtain ⟨rfl, h4⟩ := txtC_cut hl.2 hm.2 h3
    exact ⟨rfl, h4⟩
theorem txtM_cut0 : ∀ {vs ws : List RV} {ks kl : List ByteArray} {r s : List UInt8}, ks.length = vs.length → kl.length = ws.length → RV.GoodL vs → RV.GoodL ws → (RV.txtM ks vs).drop 1 ++ 125 :: r = (RV.txtM kl ws).drop 1 ++ 125 :: s → vs = ws ∧ ks = kl ∧ r = s
  | [], [], [], [], _, _, _, _, _, _, h => by simpa [RV.txtM] using h
  | [], y :: m, [], k :: kl, r, s, _, _, _, _, h => by
    have h2 : 125 :: r = strT k ++ (58 :: (y.txt ++ (RV.txtM kl m ++ 125 :: s))) := by simpa [RV.txtM] using h
    unfold strT at h2
    simp at h2
  | x :: l, [], k :: ks, [], r, s, _, _, _, _, h => by
    have h2 : strT k ++ (58 :: (x.txt ++ (RV.txtM ks l ++ 125 :: r))) = 125 :: s := by simpa [RV.txtM] using h
    unfold strT at h2
    simp at h2
  | x :: l, y :: m, k :: ks, k' :: kl, r, s, h1, h2, hl, hm, h => by
    unfold RV.GoodL at hl hm
    have h3 : strT k ++ (58 :: (x.txt ++ (RV.txtM ks l ++ 125 :: r))) = strT k' ++ (58 :: (y.txt ++ (RV.txtM kl m ++ 125 :: s))) := by simpa [RV.txtM] using h
    obtain ⟨rfl, h4⟩ := strT_cut h3
    injection h4 with _ h4
    obtain ⟨rfl, h5⟩ := txt_cut hl.1 hm.1 (ends_txtM ks l r) (ends_txtM kl m s) h4
    obtain ⟨rfl, rfl, h6⟩ := txtM_cut (by simpa using h1) (by simpa using h2) hl.2 hm.2 h5
    exact ⟨rfl, rfl, h6⟩
theorem txtM_cut : ∀ {vs ws : List RV} {ks kl : List ByteArray} {r s : List UInt8}, ks.length = vs.length → kl.length = ws.length → RV.GoodL vs → RV.GoodL ws → RV.txtM ks vs ++ 125 :: r = RV.txtM kl ws ++ 125 :: s → vs = ws ∧ ks = kl ∧ r = s
  | [], [], [], [], _, _, _, _, _, _, h => by simpa [RV.txtM] using h
  | [], y :: m, _, _, _, _, _, _, _, _, h => by simp [RV.txtM] at h
  | x :: l, [], _, _, _, _, _, _, _, _, h => by simp [RV.txtM] at h
  | x :: l, y :: m, k :: ks, k' :: kl, r, s, h1, h2, hl, hm, h => by
    unfold RV.GoodL at hl hm
    have h3 : strT k ++ (58 :: (x.txt ++ (RV.txtM ks l ++ 125 :: r))) = strT k' ++ (58 :: (y.txt ++ (RV.txtM kl m ++ 125 :: s))) := by simpa [RV.txtM] using h
    obtain ⟨rfl, h4⟩ := strT_cut h3
    injection h4 with _ h4
    obtain ⟨rfl, h5⟩ := txt_cut hl.1 hm.1 (ends_txtM ks l r) (ends_txtM kl m s) h4
    obtain ⟨rfl, rfl, h6⟩ := txtM_cut (by simpa using h1) (by simpa using h2) hl.2 hm.2 h5
    exact ⟨rfl, rfl, h6⟩
end
/-- Two good trees with one text are one. -/
theorem txt_inj {x y : RV} (hx : x.Good) (hy : y.Good) (h : x.txt = y.txt) : x = y :=
  (txt_cut (r := []) (s := []) hx hy trivial trivial (by rw [h])).1
end Go.Proofs.YtjpcdbopioblaaaGreatDoor
