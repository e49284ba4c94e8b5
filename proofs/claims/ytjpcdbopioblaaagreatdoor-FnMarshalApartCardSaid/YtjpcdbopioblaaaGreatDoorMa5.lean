/- Texts of this proof laid together by a program: Open, Lay. -/
import Derived.Test.YtjpcdbopioblaaaGreatDoorMa3
import Derived.ProofKit
import Derived.SizedLaws
import Derived.OpenShut
import Derived.Lib.LaidIn
import Derived.Lib.LaidU8T
import Derived.LaidHandle
import Derived.Handed
import Derived.MakeChecks
/- From a row's reading of its arguments to the trees: what the given world holds when the call begins. -/
namespace Go.Proofs.YtjpcdbopioblaaaGreatDoor
open Go.RowKit Go.WideShapes Go.ChangeShapes

theorem Tryz.own : ownKnob Tryz.prog.godebug = none := by kernel_rfl
theorem Tryz.laidOut : laidOutB Tryz.prog = true := by kernel_rfl
theorem Tryz.cellsValue : Tryz.prog.cellsOf 27 = 6 := by kernel_rfl
theorem Tryz.cellsString : Tryz.prog.cellsOf 9 = 1 := by kernel_rfl
theorem Tryz.bytesValue : 1 ≤ Tryz.prog.bytesOf 27 := by decide +kernel
theorem Tryz.bytesString : 1 ≤ Tryz.prog.bytesOf 9 := by decide +kernel

theorem repL_of {W : World} {b o : Nat} : ∀ (n i : Nat), (∀ j, j < n → ∃ c0 c1 c2 c3 c4 c5 x, W.cell? ⟨b, o + (i + j) * 6, none⟩ = some c0 ∧ W.cell? ⟨b, o + (i + j) * 6 + 1, none⟩ = some c1 ∧ W.cell? ⟨b, o + (i + j) * 6 + 2, none⟩ = some c2 ∧
      W.cell? ⟨b, o + (i + j) * 6 + 3, none⟩ = some c3 ∧ W.cell? ⟨b, o + (i + j) * 6 + 4, none⟩ = some c4 ∧ W.cell? ⟨b, o + (i + j) * 6 + 5, none⟩ = some c5 ∧ RV.Rep W (.agg #[c0, c1, c2, c3, c4, c5]) x) →
    ∃ l : List RV, l.length = n ∧ RV.RepL W (some ⟨b, o, none⟩) i l
  | 0, _, _ => ⟨[], rfl, by unfold RV.RepL; trivial⟩
  | n + 1, i, h => by
    obtain ⟨c0, c1, c2, c3, c4, c5, x, h0, h1, h2, h3, h4, h5, hx⟩ := h 0 (by omega)
    obtain ⟨l, hl, hr⟩ := repL_of n (i + 1) (fun j hj => by have := h (j + 1) (by omega); rwa [show i + (j + 1) = i + 1 + j by omega] at this)
    exact ⟨x :: l, by simp [hl], by unfold RV.RepL; exact ⟨⟨b, o, c0, c1, c2, c3, c4, c5, rfl, h0, h1, h2, h3, h4, h5, hx⟩, hr⟩⟩

theorem keysAt_of {W : World} {b o : Nat} : ∀ (n i : Nat), (∀ j, j < n → ∃ s : ByteArray, s.size ≤ reachN ∧ W.cell? ⟨b, o + (i + j), none⟩ = some (.string s)) →
    ∃ ks : List ByteArray, ks.length = n ∧ KeysAt W (some ⟨b, o, none⟩) i ks
  | 0, _, _ => ⟨[], rfl, trivial⟩
  | n + 1, i, h => by
    obtain ⟨s, hs, h0⟩ := h 0 (by omega)
    obtain ⟨l, hl, hr⟩ := keysAt_of n (i + 1) (fun j hj => by have := h (j + 1) (by omega); rwa [show i + (j + 1) = i + 1 + j by omega] at this)
    exact ⟨s :: l, by simp [hl], ⟨⟨b, o, rfl, hs, by simpa using h0⟩, hr⟩⟩

section
variable {H : Type} {enc : TypeId × Value → H} {W : World} {base : Nat} {spare : Nat → Bool} {held : Bool}

theorem addr_spot {a : Addr} {v : Value} (h : W.cell? (a.add 0) = some v) : a.spot = none := World.cell?_spot (a := a) h
theorem add_zero' (a : Addr) : a.add 0 = a := rfl
theorem add_mk (b o i : Nat) : (⟨b, o, none⟩ : Addr).add i = ⟨b, o + i, none⟩ := by
  unfold Addr.add
  split
  · rename_i h; subst h; rfl
  · rfl

theorem weightsAll_mem {P : Program} {e : TypeId} : ∀ {l : List (DataW H)} {d : DataW H}, d ∈ l → ∀ n ∈ d.weights P e, n ∈ DataW.weightsAll P e l
  | x :: r, d, h, n, hn => by
    simp only [DataW.weightsAll, List.mem_append]
    rcases List.mem_cons.1 h with rfl | h
    · exact .inl hn
    · exact .inr (weightsAll_mem h n hn)

set_option maxRecDepth 100000 in
/-- One slice of values, its elements being read. -/
theorem open_values {n : Nat} (ih : ∀ m, m < n → ∀ (cs : List Value) (d : DataW H) (ps : List MemPlace), DataW.trod enc Tryz.prog W base spare held m 27 cs = some (d, ps) → (∀ k ∈ d.weights Tryz.prog 27, k ≤ reachBytes) →
      ∃ x c0 c1 c2 c3 c4 c5, cs = [c0, c1, c2, c3, c4, c5] ∧ RV.Rep W (.agg #[c0, c1, c2, c3, c4, c5]) x)
    {m : Nat} (hm : m ≤ n) {c : Value} {y : DataW H × List MemPlace} (h : DataW.trod enc Tryz.prog W base spare held m 22 [c] = some y) (hw : ∀ k ∈ y.1.weights Tryz.prog 22, k ≤ reachBytes) :
    ∃ (l : List RV) (a : Option Addr) (cap : Nat), c = .slice a l.length cap ∧ l.length ≤ reachN ∧ RV.RepL W a 0 l := by
  rcases DataW.trod_slice Tryz.underlying22 h with ⟨hc, rfl⟩ | ⟨a, len, cap, elems, rest, k, rfl, hc, rfl, _, _, _, hlen, hel, _, _⟩
  · injection hc with hc _
    exact ⟨[], none, 0, hc, by simp, by unfold RV.RepL; trivial⟩
  · injection hc with hc _
    subst hc
    rw [Tryz.cellsValue] at hel
    have hlr : len ≤ reachN := by
      have := hw ((elems.length + rest.length) * Tryz.prog.bytesOf 27) (by simp [DataW.weights, Tryz.underlying22])
      have hb := Tryz.bytesValue
      have h1 : (elems.length + rest.length) * 1 ≤ (elems.length + rest.length) * Tryz.prog.bytesOf 27 := Nat.mul_le_mul_left _ hb
      have h2 : reachBytes = reachN := rfl
      omega
    have each : ∀ j, j < len → ∃ c0 c1 c2 c3 c4 c5 x, W.cell? (a.add (j * 6)) = some c0 ∧ W.cell? ((a.add (j * 6)).add 1) = some c1 ∧ W.cell? ((a.add (j * 6)).add 2) = some c2 ∧
        W.cell? ((a.add (j * 6)).add 3) = some c3 ∧ W.cell? ((a.add (j * 6)).add 4) = some c4 ∧ W.cell? ((a.add (j * 6)).add 5) = some c5 ∧ RV.Rep W (.agg #[c0, c1, c2, c3, c4, c5]) x := by
      intro j hj
      have hj' := hel j hj
      have hjl : j < elems.length := by omega
      rw [List.getElem?_eq_getElem hjl] at hj'
      obtain ⟨cs, hcs, ht⟩ := Option.bind_eq_some_iff.1 hj'
      obtain ⟨_, hl6, hcell⟩ := World.cells?_some hcs
      obtain ⟨x, c0, c1, c2, c3, c4, c5, rfl, hx⟩ := ih k (by omega) cs elems[j].1 elems[j].2 ht (fun q hq => hw q (by
        simp only [DataW.weights, Tryz.underlying22]
        exact List.mem_cons_of_mem _ (List.mem_append_left _ (weightsAll_mem (List.mem_map.2 ⟨elems[j], List.getElem_mem hjl, rfl⟩) q hq))))
      have k0 := hcell 0 (by omega)
      have k1 := hcell 1 (by omega)
      have k2 := hcell 2 (by omega)
      have k3 := hcell 3 (by omega)
      have k4 := hcell 4 (by omega)
      have k5 := hcell 5 (by omega)
      exact ⟨c0, c1, c2, c3, c4, c5, x, k0, k1, k2, k3, k4, k5, hx⟩
    obtain ⟨b, o, spot⟩ := a
    rcases Nat.eq_zero_or_pos len with h0 | h0
    · subst h0
      exact ⟨[], _, cap, rfl, by simp, by unfold RV.RepL; trivial⟩
    · obtain ⟨c0, _, _, _, _, _, _, hc0, _⟩ := each 0 h0
      have hs := addr_spot (v := c0) (by simpa using hc0)
      simp only at hs
      subst hs
      obtain ⟨l, hl, hr⟩ := repL_of (W := W) (b := b) (o := o) len 0 (fun j hj => by
        obtain ⟨c0, c1, c2, c3, c4, c5, x, k0, k1, k2, k3, k4, k5, hx⟩ := each j hj
        refine ⟨c0, c1, c2, c3, c4, c5, x, ?_, ?_, ?_, ?_, ?_, ?_, hx⟩
        · rw [add_mk] at k0; simpa using k0
        · rw [add_mk, add_mk] at k1; simpa [Nat.add_assoc] using k1
        · rw [add_mk, add_mk] at k2; simpa [Nat.add_assoc] using k2
        · rw [add_mk, add_mk] at k3; simpa [Nat.add_assoc] using k3
        · rw [add_mk, add_mk] at k4; simpa [Nat.add_assoc] using k4
        · rw [add_mk, add_mk] at k5; simpa [Nat.add_assoc] using k5)
      subst hl
      exact ⟨l, _, cap, rfl, hlr, hr⟩

set_option maxRecDepth 100000 in
theorem open_texts {m : Nat} {c : Value} {y : DataW H × List MemPlace} (h : DataW.trod enc Tryz.prog W base spare held m 25 [c] = some y) (hw : ∀ k ∈ y.1.weights Tryz.prog 25, k ≤ reachBytes) :
    ∃ (l : List ByteArray) (a : Option Addr) (cap : Nat), c = .slice a l.length cap ∧ l.length ≤ reachN ∧ KeysAt W a 0 l := by
  rcases DataW.trod_slice Tryz.underlying25 h with ⟨hc, rfl⟩ | ⟨a, len, cap, elems, rest, k, rfl, hc, rfl, _, _, _, hlen, hel, _, _⟩
  · injection hc with hc _
    exact ⟨[], none, 0, hc, by simp, trivial⟩
  · injection hc with hc _
    subst hc
    rw [Tryz.cellsString] at hel
    have hlr : len ≤ reachN := by
      have := hw ((elems.length + rest.length) * Tryz.prog.bytesOf 9) (by simp [DataW.weights, Tryz.underlying25])
      have hb := Tryz.bytesString
      have h1 : (elems.length + rest.length) * 1 ≤ (elems.length + rest.length) * Tryz.prog.bytesOf 9 := Nat.mul_le_mul_left _ hb
      have h2 : reachBytes = reachN := rfl
      omega
    have each : ∀ j, j < len → ∃ s : ByteArray, s.size ≤ reachN ∧ W.cell? (a.add (j * 1)) = some (.string s) := by
      intro j hj
      have hj' := hel j hj
      have hjl : j < elems.length := by omega
      rw [List.getElem?_eq_getElem hjl] at hj'
      obtain ⟨cs, hcs, ht⟩ := Option.bind_eq_some_iff.1 hj'
      obtain ⟨_, _, hcell⟩ := World.cells?_some hcs
      obtain ⟨s, rfl, he, _⟩ := DataW.trod_string Tryz.underlying9 ht
      refine ⟨s, ?_, hcell 0 (by omega)⟩
      have := hw s.data.toList.length (by
        simp only [DataW.weights, Tryz.underlying25]
        refine List.mem_cons_of_mem _ (List.mem_append_left _ (weightsAll_mem (List.mem_map.2 ⟨elems[j], List.getElem_mem hjl, rfl⟩) _ ?_))
        rw [he]
        simp [DataW.weights])
      have e : s.data.toList.length = s.size := Array.length_toList
      rw [e] at this
      exact this
    obtain ⟨b, o, spot⟩ := a
    rcases Nat.eq_zero_or_pos len with h0 | h0
    · subst h0
      exact ⟨[], _, cap, rfl, by simp, trivial⟩
    · obtain ⟨s0, _, hc0⟩ := each 0 h0
      have hs := addr_spot (v := .string s0) (by simpa using hc0)
      simp only at hs
      subst hs
      obtain ⟨l, hl, hr⟩ := keysAt_of (W := W) (b := b) (o := o) len 0 (fun j hj => by
        obtain ⟨s, hs, k0⟩ := each j hj
        exact ⟨s, hs, by rw [add_mk] at k0; simpa using k0⟩)
      subst hl
      exact ⟨l, _, cap, rfl, hlr, hr⟩

theorem i64_of_wf {n : Int} (h : (Lit.int .i64 n).wf = true) : I64 n := bounds_i64 h
theorem Tryz.cellsKind : Tryz.prog.cellsOf 24 = 1 := by kernel_rfl
theorem Tryz.cellsInt : Tryz.prog.cellsOf 3 = 1 := by kernel_rfl
theorem Tryz.cellsValues : Tryz.prog.cellsOf 22 = 1 := by kernel_rfl
theorem Tryz.cellsStrings : Tryz.prog.cellsOf 25 = 1 := by kernel_rfl

set_option maxRecDepth 100000 in
theorem rep_of_trod : ∀ (n : Nat) (cs : List Value) (d : DataW H) (ps : List MemPlace), DataW.trod enc Tryz.prog W base spare held n 27 cs = some (d, ps) → (∀ k ∈ d.weights Tryz.prog 27, k ≤ reachBytes) →
    ∃ x c0 c1 c2 c3 c4 c5, cs = [c0, c1, c2, c3, c4, c5] ∧ RV.Rep W (.agg #[c0, c1, c2, c3, c4, c5]) x := by
  intro n
  induction n using Nat.strongRecOn with
  | ind n ih =>
    intro cs d ps h hw
    obtain ⟨xs, m, rfl, hx, hcl, hxl, hf⟩ := DataW.trod_struct Tryz.underlying27 h
    rw [Tryz.cellsValue] at hcl
    simp only [Prod.mk.injEq] at hx
    obtain ⟨rfl, -⟩ := hx
    match xs, hxl, cs, hcl with
    | [y0, y1, y2, y3, y4, y5], _, [c0, c1, c2, c3, c4, c5], _ =>
      have f0 : DataW.trod enc Tryz.prog W base spare held m 24 [c0] = some y0 := by have f := hf 0 _ rfl; simpa [Tryz.cellsKind] using f
      have f1 : DataW.trod enc Tryz.prog W base spare held m 3 [c1] = some y1 := by have f := hf 1 _ rfl; simpa [Tryz.cellsInt] using f
      have f2 : DataW.trod enc Tryz.prog W base spare held m 9 [c2] = some y2 := by have f := hf 2 _ rfl; simpa [Tryz.cellsString] using f
      have f3 : DataW.trod enc Tryz.prog W base spare held m 22 [c3] = some y3 := by have f := hf 3 _ rfl; simpa [Tryz.cellsValues] using f
      have f4 : DataW.trod enc Tryz.prog W base spare held m 25 [c4] = some y4 := by have f := hf 4 _ rfl; simpa [Tryz.cellsStrings] using f
      have f5 : DataW.trod enc Tryz.prog W base spare held m 22 [c5] = some y5 := by have f := hf 5 _ rfl; simpa [Tryz.cellsValues] using f
      clear hf h
      simp only [DataW.weights, Tryz.underlying27, List.map_cons, List.map_nil, DataW.weightsEach, List.append_nil, List.mem_append] at hw
      obtain ⟨k, e0, -, hk⟩ := DataW.trod_int Tryz.underlying24 f0
      obtain ⟨hh, e1, -, hhh⟩ := DataW.trod_int Tryz.underlying3 f1
      obtain ⟨t, e2, g2, -⟩ := DataW.trod_string Tryz.underlying9 f2
      obtain ⟨l, al, cl, rfl, hl, hrl⟩ := open_values (n := m) (fun q hq => ih q (by omega)) (Nat.le_refl _) f3 (fun q hq => hw q (.inr (.inr (.inr (.inl hq)))))
      obtain ⟨ks, ak, ck, rfl, hk2, hrk⟩ := open_texts f4 (fun q hq => hw q (.inr (.inr (.inr (.inr (.inl hq))))))
      obtain ⟨vs, av, cv, rfl, hv, hrv⟩ := open_values (n := m) (fun q hq => ih q (by omega)) (Nat.le_refl _) f5 (fun q hq => hw q (.inr (.inr (.inr (.inr (.inr hq))))))
      have ht : t.size ≤ reachN := by
        have := hw t.data.toList.length (.inr (.inr (.inl (by rw [g2]; simp [DataW.weights]))))
        have e : t.data.toList.length = t.size := Array.length_toList
        rw [e] at this
        exact this
      injection e0 with e0 _
      injection e1 with e1 _
      injection e2 with e2 _
      subst e0 e1 e2
      exact ⟨.mk k hh t l ks vs, _, _, _, _, _, _, rfl, by unfold RV.Rep; exact ⟨al, cl, ak, ck, av, cv, rfl, i64_of_wf hk, i64_of_wf hhh, ht, hl, hk2, hv, hrl, hrk, hrv⟩⟩

set_option maxRecDepth 100000 in
/-- An argument of the thin package's type, opened. -/
theorem open_value {r : Reach} {b0 : Nat} {v : Value} {d : DataW H} {ps : List MemPlace} (hv : Value.okWide Tryz.prog W r b0 27 v) (h : DataW.Trod enc Tryz.prog W base spare held 27 v d ps)
    (hw : ∀ k ∈ d.weights Tryz.prog 27, k ≤ reachBytes) : ∃ x, RV.Rep W v x := by
  obtain ⟨cs, rfl, hsz⟩ := okWide_struct Tryz.underlying27 hv
  obtain ⟨fuel, hf⟩ := h
  obtain ⟨x, c0, c1, c2, c3, c4, c5, hcs, hx⟩ := rep_of_trod fuel _ d ps hf hw
  have : cs = #[c0, c1, c2, c3, c4, c5] := by
    have := congrArg List.toArray hcs
    simpa [Value.cells] using this
  subst this
  exact ⟨x, hx⟩
end
end Go.Proofs.YtjpcdbopioblaaaGreatDoor

/- The two tables of unicode/utf8 as the rows list them: a world that holds them, and what the condition gives the walks. -/
namespace Go.Proofs.YtjpcdbopioblaaaGreatDoor
open Go.RowKit

theorem first_is : Rows.laid_unicode_utf8_first = Lib.firstData := by kernel_rfl
theorem accept_is : (Rows.laid_unicode_utf8_acceptRanges : DataW Unit) = Lib.acceptData := by kernel_rfl

def Laid : List (String × DataW Unit) := [("unicode/utf8.acceptRanges", Rows.laid_unicode_utf8_acceptRanges), ("unicode/utf8.first", Rows.laid_unicode_utf8_first)]

/-- The settled world, the two variables holding what their initialisers lay. -/
noncomputable def laidWorld (os : Os) : World :=
  let w0 := World.holding Tryz.prog os ⟨#[], #[], []⟩
  let put (h : Array Obj) (g : Nat) (cs : Array Value) : Array Obj := h.modify g fun
    | .cells _ t frozen => .cells cs t frozen
    | o => o
  let h1 := put w0.heap 0 (Lib.firstTab.map fun z => Value.int .u8 z).toArray
  let h2 := put h1 1 ((List.range 16).flatMap fun i => [Value.int .u8 (Lib.accLo i), Value.int .u8 (Lib.accHi i)]).toArray
  { w0 with heap := h2 }

theorem laid_met (os : Os) (args : Array Value) : laidMetH Tryz.prog Laid ((laidWorld os).forCall (fun _ _ => 0) ⟨#[], args, []⟩).memory :=
  laidMetH_of_parts ((LaidIn.of_run (l := Laid) [0, 1] 8 (by kernel_rfl) (by kernel_rfl) (by kernel_rfl) (by kernel_rfl)).met) (by kernel_rfl)

theorem tabs_of_laid {W : World} (h : laidMetH Tryz.prog Laid W) : Tabs W := by
  have hL : laidMet Tryz.prog Laid W := h
  unfold Laid at hL
  rw [first_is, accept_is] at hL
  exact utf8Tabs_of_readsT (U8Types.of196 Tryz.laysValid) ⟨by kernel_rfl, by kernel_rfl, by kernel_rfl, by kernel_rfl, by kernel_rfl, by kernel_rfl, by kernel_rfl⟩
    (Lib.laidMet.reads hL (.tail _ (.head _))) (Lib.laidMet.reads hL (.head _))
end Go.Proofs.YtjpcdbopioblaaaGreatDoor
