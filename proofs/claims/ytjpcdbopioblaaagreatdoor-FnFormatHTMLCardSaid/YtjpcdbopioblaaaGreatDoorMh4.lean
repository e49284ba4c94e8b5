/- Texts of this proof laid together by a program: Open, SpecDigits, Assert, AppendRow, Iter, Kept, EncFloat2, EncAnyI, SortLay. -/
import Derived.Test.YtjpcdbopioblaaaGreatDoorMh1
import Derived.Test.YtjpcdbopioblaaaGreatDoorMh3
import Derived.ProofKit
import Derived.SizedLaws
import Derived.OpenShut
import Derived.Lib.LaidIn
import Derived.Lib.LaidU8T
import Derived.KernelRfl
import Derived.Stop.Asserts
import Derived.Test.YtjpcdbopioblaaaGreatDoorRows
import Derived.WalkKit
import Derived.Laws.AppendOwn
import Derived.OwnWalk
import Derived.Shelf.SlIter.Nil
import Derived.Shelf.SortM.Plain
import Derived.Shelf.SortM.SortNone
import Derived.Ground.GgzProg
import Derived.Ground.SlgmProg
import Derived.Test.YtjpcdbopioblaaaGreatDoorProg
import Derived.Deep.RegionHeld3
import Derived.Shelf.SlSortFuncK.WholeK
import Derived.Shelf.GgSortFunc.Tiny
import Derived.Ground.GgsProg
/- From a row's reading of its arguments to the trees: what the given world holds when the call begins. -/
namespace Go.Proofs.YtjpcdbopioblaaaGreatDoor
open Go.RowKit Go.WideShapes Go.ChangeShapes

theorem Tryz.own : ownKnob Tryz.prog.godebug = none := by kernel_rfl
theorem Tryz.laidOut : laidOutB Tryz.prog = true := by kernel_rfl
theorem Tryz.cellsValue : Tryz.prog.cellsOf 27 = 6 := by kernel_rfl
theorem Tryz.cellsString : Tryz.prog.cellsOf 9 = 1 := by kernel_rfl
theorem Tryz.bytesValue : 1 ≤ Tryz.prog.bytesOf 27 := by decide +kernel
theorem Tryz.bytesString : 1 ≤ Tryz.prog.bytesOf 9 := by decide +kernel

theorem repL_of {W : World} {b o : Nat} : ∀ (n i : Nat), (∀ j, j < n → ∃ c0 c1 c2 c3 c4 c5 x, W.cell? ⟨b, o + (i + j) * 6, none⟩ = some c0 ∧ W.cell? ⟨b, o + (i + j) * 6 + 1, none⟩ = some c1 ∧ W.cell? ⟨b, o + (i + j) * 6 + 2, none⟩ = some c2 ∧
      W.cell? ⟨b, o + (i + j) * 6 + 3, none⟩ = some c3 ∧ W.cell? ⟨b, o + (i + j) * 6 + 4, none⟩ = some c4 ∧ W.cell? ⟨b, o + (i + j) * 6 + 5, none⟩ = some c5 ∧ RV.Rep W (.agg #[c0, c1, c2, c3, c4, c5]) x) →
    ∃ l : List RV, l.length = n ∧ RV.RepL W (some ⟨b, o, none⟩) i l
  | 0, _, _ => ⟨[], rfl, by unfold RV.RepL; trivial⟩
  | n + 1, i, h => by
    obtain ⟨c0, c1, c2, c3, c4, c5, x, h0, h1, h2, h3, h4, h5, hx⟩ := h 0 (by omega)
    obtain ⟨l, hl, hr⟩ := repL_of n (i + 1) (fun j hj => by have := h (j + 1) (by omega); rwa [show i + (j + 1) = i + 1 + j by omega] at this)
    exact ⟨x :: l, by simp [hl], by unfold RV.RepL; exact ⟨⟨b, o, c0, c1, c2, c3, c4, c5, rfl, h0, h1, h2, h3, h4, h5, hx⟩, hr⟩⟩

theorem keysAt_of {W : World} {b o : Nat} : ∀ (n i : Nat), (∀ j, j < n → ∃ s : ByteArray, s.size ≤ reachN ∧ W.cell? ⟨b, o + (i + j), none⟩ = some (.string s)) →
    ∃ ks : List ByteArray, ks.length = n ∧ KeysAt W (some ⟨b, o, none⟩) i ks
  | 0, _, _ => ⟨[], rfl, trivial⟩
  | n + 1, i, h => by
    obtain ⟨s, hs, h0⟩ := h 0 (by omega)
    obtain ⟨l, hl, hr⟩ := keysAt_of n (i + 1) (fun j hj => by have := h (j + 1) (by omega); rwa [show i + (j + 1) = i + 1 + j by omega] at this)
    exact ⟨s :: l, by simp [hl], ⟨⟨b, o, rfl, hs, by simpa using h0⟩, hr⟩⟩

section
variable {H : Type} {enc : TypeId × Value → H} {W : World} {base : Nat} {spare : Nat → Bool} {held : Bool}

theorem addr_spot {a : Addr} {v : Value} (h : W.cell? (a.add 0) = some v) : a.spot = none := World.cell?_spot (a := a) h
theorem add_zero' (a : Addr) : a.add 0 = a := rfl
theorem add_mk (b o i : Nat) : (⟨b, o, none⟩ : Addr).add i = ⟨b, o + i, none⟩ := by
  unfold Addr.add
  split
  · rename_i h; subst h; rfl
  · rfl

theorem weightsAll_mem {P : Program} {e : TypeId} : ∀ {l : List (DataW H)} {d : DataW H}, d ∈ l → ∀ n ∈ d.weights P e, n ∈ DataW.weightsAll P e l
  | x :: r, d, h, n, hn => by
    simp only [DataW.weightsAll, List.mem_append]
    rcases List.mem_cons.1 h with rfl | h
    · exact .inl hn
    · exact .inr (weightsAll_mem h n hn)

set_option maxRecDepth 100000 in
/-- One slice of values, its elements being read. -/
theorem open_values {n : Nat} (ih : ∀ m, m < n → ∀ (cs : List Value) (d : DataW H) (ps : List MemPlace), DataW.trod enc Tryz.prog W base spare held m 27 cs = some (d, ps) → (∀ k ∈ d.weights Tryz.prog 27, k ≤ reachBytes) →
      ∃ x c0 c1 c2 c3 c4 c5, cs = [c0, c1, c2, c3, c4, c5] ∧ RV.Rep W (.agg #[c0, c1, c2, c3, c4, c5]) x)
    {m : Nat} (hm : m ≤ n) {c : Value} {y : DataW H × List MemPlace} (h : DataW.trod enc Tryz.prog W base spare held m 22 [c] = some y) (hw : ∀ k ∈ y.1.weights Tryz.prog 22, k ≤ reachBytes) :
    ∃ (l : List RV) (a : Option Addr) (cap : Nat), c = .slice a l.length cap ∧ l.length ≤ reachN ∧ RV.RepL W a 0 l := by
  rcases DataW.trod_slice Tryz.underlying22 h with ⟨hc, rfl⟩ | ⟨a, len, cap, elems, rest, k, rfl, hc, rfl, _, _, _, hlen, hel, _, _⟩
  · injection hc with hc _
    exact ⟨[], none, 0, hc, by simp, by unfold RV.RepL; trivial⟩
  · injection hc with hc _
    subst hc
    rw [Tryz.cellsValue] at hel
    have hlr : len ≤ reachN := by
      have := hw ((elems.length + rest.length) * Tryz.prog.bytesOf 27) (by simp [DataW.weights, Tryz.underlying22])
      have hb := Tryz.bytesValue
      have h1 : (elems.length + rest.length) * 1 ≤ (elems.length + rest.length) * Tryz.prog.bytesOf 27 := Nat.mul_le_mul_left _ hb
      have h2 : reachBytes = reachN := rfl
      omega
    have each : ∀ j, j < len → ∃ c0 c1 c2 c3 c4 c5 x, W.cell? (a.add (j * 6)) = some c0 ∧ W.cell? ((a.add (j * 6)).add 1) = some c1 ∧ W.cell? ((a.add (j * 6)).add 2) = some c2 ∧
        W.cell? ((a.add (j * 6)).add 3) = some c3 ∧ W.cell? ((a.add (j * 6)).add 4) = some c4 ∧ W.cell? ((a.add (j * 6)).add 5) = some c5 ∧ RV.Rep W (.agg #[c0, c1, c2, c3, c4, c5]) x := by
      intro j hj
      have hj' := hel j hj
      have hjl : j < elems.length := by omega
      rw [List.getElem?_eq_getElem hjl] at hj'
      obtain ⟨cs, hcs, ht⟩ := Option.bind_eq_some_iff.1 hj'
      obtain ⟨_, hl6, hcell⟩ := World.cells?_some hcs
      obtain ⟨x, c0, c1, c2, c3, c4, c5, rfl, hx⟩ := ih k (by omega) cs elems[j].1 elems[j].2 ht (fun q hq => hw q (by
        simp only [DataW.weights, Tryz.underlying22]
        exact List.mem_cons_of_mem _ (List.mem_append_left _ (weightsAll_mem (List.mem_map.2 ⟨elems[j], List.getElem_mem hjl, rfl⟩) q hq))))
      have k0 := hcell 0 (by omega)
      have k1 := hcell 1 (by omega)
      have k2 := hcell 2 (by omega)
      have k3 := hcell 3 (by omega)
      have k4 := hcell 4 (by omega)
      have k5 := hcell 5 (by omega)
      exact ⟨c0, c1, c2, c3, c4, c5, x, k0, k1, k2, k3, k4, k5, hx⟩
    obtain ⟨b, o, spot⟩ := a
    rcases Nat.eq_zero_or_pos len with h0 | h0
    · subst h0
      exact ⟨[], _, cap, rfl, by simp, by unfold RV.RepL; trivial⟩
    · obtain ⟨c0, _, _, _, _, _, _, hc0, _⟩ := each 0 h0
      have hs := addr_spot (v := c0) (by simpa using hc0)
      simp only at hs
      subst hs
      obtain ⟨l, hl, hr⟩ := repL_of (W := W) (b := b) (o := o) len 0 (fun j hj => by
        obtain ⟨c0, c1, c2, c3, c4, c5, x, k0, k1, k2, k3, k4, k5, hx⟩ := each j hj
        refine ⟨c0, c1, c2, c3, c4, c5, x, ?_, ?_, ?_, ?_, ?_, ?_, hx⟩
        · rw [add_mk] at k0; simpa using k0
        · rw [add_mk, add_mk] at k1; simpa [Nat.add_assoc] using k1
        · rw [add_mk, add_mk] at k2; simpa [Nat.add_assoc] using k2
        · rw [add_mk, add_mk] at k3; simpa [Nat.add_assoc] using k3
        · rw [add_mk, add_mk] at k4; simpa [Nat.add_assoc] using k4
        · rw [add_mk, add_mk] at k5; simpa [Nat.add_assoc] using k5)
      subst hl
      exact ⟨l, _, cap, rfl, hlr, hr⟩

set_option maxRecDepth 100000 in
theorem open_texts {m : Nat} {c : Value} {y : DataW H × List MemPlace} (h : DataW.trod enc Tryz.prog W base spare held m 25 [c] = some y) (hw : ∀ k ∈ y.1.weights Tryz.prog 25, k ≤ reachBytes) :
    ∃ (l : List ByteArray) (a : Option Addr) (cap : Nat), c = .slice a l.length cap ∧ l.length ≤ reachN ∧ KeysAt W a 0 l := by
  rcases DataW.trod_slice Tryz.underlying25 h with ⟨hc, rfl⟩ | ⟨a, len, cap, elems, rest, k, rfl, hc, rfl, _, _, _, hlen, hel, _, _⟩
  · injection hc with hc _
    exact ⟨[], none, 0, hc, by simp, trivial⟩
  · injection hc with hc _
    subst hc
    rw [Tryz.cellsString] at hel
    have hlr : len ≤ reachN := by
      have := hw ((elems.length + rest.length) * Tryz.prog.bytesOf 9) (by simp [DataW.weights, Tryz.underlying25])
      have hb := Tryz.bytesString
      have h1 : (elems.length + rest.length) * 1 ≤ (elems.length + rest.length) * Tryz.prog.bytesOf 9 := Nat.mul_le_mul_left _ hb
      have h2 : reachBytes = reachN := rfl
      omega
    have each : ∀ j, j < len → ∃ s : ByteArray, s.size ≤ reachN ∧ W.cell? (a.add (j * 1)) = some (.string s) := by
      intro j hj
      have hj' := hel j hj
      have hjl : j < elems.length := by omega
      rw [List.getElem?_eq_getElem hjl] at hj'
      obtain ⟨cs, hcs, ht⟩ := Option.bind_eq_some_iff.1 hj'
      obtain ⟨_, _, hcell⟩ := World.cells?_some hcs
      obtain ⟨s, rfl, he, _⟩ := DataW.trod_string Tryz.underlying9 ht
      refine ⟨s, ?_, hcell 0 (by omega)⟩
      have := hw s.data.toList.length (by
        simp only [DataW.weights, Tryz.underlying25]
        refine List.mem_cons_of_mem _ (List.mem_append_left _ (weightsAll_mem (List.mem_map.2 ⟨elems[j], List.getElem_mem hjl, rfl⟩) _ ?_))
        rw [he]
        simp [DataW.weights])
      have e : s.data.toList.length = s.size := Array.length_toList
      rw [e] at this
      exact this
    obtain ⟨b, o, spot⟩ := a
    rcases Nat.eq_zero_or_pos len with h0 | h0
    · subst h0
      exact ⟨[], _, cap, rfl, by simp, trivial⟩
    · obtain ⟨s0, _, hc0⟩ := each 0 h0
      have hs := addr_spot (v := .string s0) (by simpa using hc0)
      simp only at hs
      subst hs
      obtain ⟨l, hl, hr⟩ := keysAt_of (W := W) (b := b) (o := o) len 0 (fun j hj => by
        obtain ⟨s, hs, k0⟩ := each j hj
        exact ⟨s, hs, by rw [add_mk] at k0; simpa using k0⟩)
      subst hl
      exact ⟨l, _, cap, rfl, hlr, hr⟩

theorem i64_of_wf {n : Int} (h : (Lit.int .i64 n).wf = true) : I64 n := bounds_i64 h
theorem Tryz.cellsKind : Tryz.prog.cellsOf 24 = 1 := by kernel_rfl
theorem Tryz.cellsInt : Tryz.prog.cellsOf 3 = 1 := by kernel_rfl
theorem Tryz.cellsValues : Tryz.prog.cellsOf 22 = 1 := by kernel_rfl
theorem Tryz.cellsStrings : Tryz.prog.cellsOf 25 = 1 := by kernel_rfl

set_option maxRecDepth 100000 in
theorem rep_of_trod : ∀ (n : Nat) (cs : List Value) (d : DataW H) (ps : List MemPlace), DataW.trod enc Tryz.prog W base spare held n 27 cs = some (d, ps) → (∀ k ∈ d.weights Tryz.prog 27, k ≤ reachBytes) →
    ∃ x c0 c1 c2 c3 c4 c5, cs = [c0, c1, c2, c3, c4, c5] ∧ RV.Rep W (.agg #[c0, c1, c2, c3, c4, c5]) x := by
  intro n
  induction n using Nat.strongRecOn with
  | ind n ih =>
    intro cs d ps h hw
    obtain ⟨xs, m, rfl, hx, hcl, hxl, hf⟩ := DataW.trod_struct Tryz.underlying27 h
    rw [Tryz.cellsValue] at hcl
    simp only [Prod.mk.injEq] at hx
    obtain ⟨rfl, -⟩ := hx
    match xs, hxl, cs, hcl with
    | [y0, y1, y2, y3, y4, y5], _, [c0, c1, c2, c3, c4, c5], _ =>
      have f0 : DataW.trod enc Tryz.prog W base spare held m 24 [c0] = some y0 := by have f := hf 0 _ rfl; simpa [Tryz.cellsKind] using f
      have f1 : DataW.trod enc Tryz.prog W base spare held m 3 [c1] = some y1 := by have f := hf 1 _ rfl; simpa [Tryz.cellsInt] using f
      have f2 : DataW.trod enc Tryz.prog W base spare held m 9 [c2] = some y2 := by have f := hf 2 _ rfl; simpa [Tryz.cellsString] using f
      have f3 : DataW.trod enc Tryz.prog W base spare held m 22 [c3] = some y3 := by have f := hf 3 _ rfl; simpa [Tryz.cellsValues] using f
      have f4 : DataW.trod enc Tryz.prog W base spare held m 25 [c4] = some y4 := by have f := hf 4 _ rfl; simpa [Tryz.cellsStrings] using f
      have f5 : DataW.trod enc Tryz.prog W base spare held m 22 [c5] = some y5 := by have f := hf 5 _ rfl; simpa [Tryz.cellsValues] using f
      clear hf h
      simp only [DataW.weights, Tryz.underlying27, List.map_cons, List.map_nil, DataW.weightsEach, List.append_nil, List.mem_append] at hw
      obtain ⟨k, e0, -, hk⟩ := DataW.trod_int Tryz.underlying24 f0
      obtain ⟨hh, e1, -, hhh⟩ := DataW.trod_int Tryz.underlying3 f1
      obtain ⟨t, e2, g2, -⟩ := DataW.trod_string Tryz.underlying9 f2
      obtain ⟨l, al, cl, rfl, hl, hrl⟩ := open_values (n := m) (fun q hq => ih q (by omega)) (Nat.le_refl _) f3 (fun q hq => hw q (.inr (.inr (.inr (.inl hq)))))
      obtain ⟨ks, ak, ck, rfl, hk2, hrk⟩ := open_texts f4 (fun q hq => hw q (.inr (.inr (.inr (.inr (.inl hq))))))
      obtain ⟨vs, av, cv, rfl, hv, hrv⟩ := open_values (n := m) (fun q hq => ih q (by omega)) (Nat.le_refl _) f5 (fun q hq => hw q (.inr (.inr (.inr (.inr (.inr hq))))))
      have ht : t.size ≤ reachN := by
        have := hw t.data.toList.length (.inr (.inr (.inl (by rw [g2]; simp [DataW.weights]))))
        have e : t.data.toList.length = t.size := Array.length_toList
        rw [e] at this
        exact this
      injection e0 with e0 _
      injection e1 with e1 _
      injection e2 with e2 _
      subst e0 e1 e2
      exact ⟨.mk k hh t l ks vs, _, _, _, _, _, _, rfl, by unfold RV.Rep; exact ⟨al, cl, ak, ck, av, cv, rfl, i64_of_wf hk, i64_of_wf hhh, ht, hl, hk2, hv, hrl, hrk, hrv⟩⟩

set_option maxRecDepth 100000 in
/-- An argument of the thin package's type, opened. -/
theorem open_value {r : Reach} {b0 : Nat} {v : Value} {d : DataW H} {ps : List MemPlace} (hv : Value.okWide Tryz.prog W r b0 27 v) (h : DataW.Trod enc Tryz.prog W base spare held 27 v d ps)
    (hw : ∀ k ∈ d.weights Tryz.prog 27, k ≤ reachBytes) : ∃ x, RV.Rep W v x := by
  obtain ⟨cs, rfl, hsz⟩ := okWide_struct Tryz.underlying27 hv
  obtain ⟨fuel, hf⟩ := h
  obtain ⟨x, c0, c1, c2, c3, c4, c5, hcs, hx⟩ := rep_of_trod fuel _ d ps hf hw
  have : cs = #[c0, c1, c2, c3, c4, c5] := by
    have := congrArg List.toArray hcs
    simpa [Value.cells] using this
  subst this
  exact ⟨x, hx⟩
end
end Go.Proofs.YtjpcdbopioblaaaGreatDoor

/- spec.digits walked. -/
namespace Go.Proofs.YtjpcdbopioblaaaGreatDoor
open Go.RowKit

theorem enc_ascii (r : Nat) (h : r < 128) : Utf8.encode (r : Int) = textB [r] := by
  have v : Utf8.valid (r : Int) = true := by simp [Utf8.valid]; omega
  refine ByteArray.ext (Array.ext' ?_)
  simp [Utf8.encode, v, h, textB]
def digB (n : Nat) : ByteArray := textB ((dig n).map (48 + ·))
theorem dig_tens (n : Nat) (h : 10 ≤ n) : dig n = dig (n / 10) ++ [n % 10] := by conv => lhs; unfold dig; rw [dif_neg (by omega)]
theorem dig_small (n : Nat) (h : n < 10) : dig n = [n] := by unfold dig; rw [dif_pos h]
set_option maxRecDepth 100000 in
set_option maxHeartbeats 1600000 in
theorem digits_any (n : Nat) (w : World) (hn : n < 9223372036854775808) :
    Calls Tryz.prog 142 #[.int .i64 n] w fun e w' => e = .returned (.string (digB n)) ∧ w = w' := by
  have hdl := dig_len 19 n (by omega)
  have HDL := Lib.hid hdl
  clear hdl
  go_enter Tryz.func142, Tryz.ntmps142
  go_wp2_with fail
  go_loopg [0, 3] n (fun gk s0 s3 wr => w = wr ∧ ∃ rest : List Nat, s0 = .int .i64 gk ∧ s3 = .string (textB (rest.map (48 + ·))) ∧ gk ≤ n ∧ Hid (dig n = dig gk ++ rest))
  case atStart => exact ⟨rfl, [], rfl, rfl, Nat.le_refl _, Lib.hid (by simp)⟩
  case round =>
    obtain ⟨rfl, rest, rfl, rfl, hle, HD⟩ := hrel
    have hr : rest.length ≤ 30 := by have h1 := congrArg List.length HD.out; have := HDL.out; rw [List.length_append] at h1; omega
    have hts : (textB (rest.map (48 + ·))).size = rest.length := by rw [textB_size]; simp
    obtain ⟨tx, htx⟩ : ∃ tx, tx = textB (rest.map (48 + ·)) := ⟨_, rfl⟩
    rw [← htx] at hts ⊢
    have HTX := Lib.hid htx
    clear htx
    by_cases hge : 10 ≤ gk
    · have hj : (10 : Int) ≤ (gk : Int) := by omega
      have he := enc_ascii (48 + gk % 10) (by omega)
      rw [show ((48 + gk % 10 : Nat) : Int) = 48 + (gk : Int) % 10 by omega] at he
      have hds : (textB [48 + gk % 10]).size = 1 := textB_size _
      obtain ⟨dx, hdx⟩ : ∃ dx, dx = textB [48 + gk % 10] := ⟨_, rfl⟩
      rw [← hdx] at he hds
      have HDX := Lib.hid hdx
      clear hdx
      have hcc : ¬ 9223372036854775807 < dx.size + tx.size := by omega
      clear hts hds
      go_wp2_with fail
      go_roundg (gk / 10)
      case measure => omega
      case rel => exact ⟨rfl, (gk % 10) :: rest, by simp, by rw [HDX.out, HTX.out, ← textB_append]; rfl, by omega, Lib.hid (by rw [HD.out, dig_tens gk hge, List.append_assoc]; rfl)⟩
    · have hj : ¬ (10 : Int) ≤ (gk : Int) := by omega
      have he := enc_ascii (48 + gk) (by omega)
      rw [show ((48 + gk : Nat) : Int) = 48 + (gk : Int) by omega] at he
      have hds : (textB [48 + gk]).size = 1 := textB_size _
      obtain ⟨dx, hdx⟩ : ∃ dx, dx = textB [48 + gk] := ⟨_, rfl⟩
      rw [← hdx] at he hds
      have HDX := Lib.hid hdx
      clear hdx
      have hcc : ¬ 9223372036854775807 < dx.size + tx.size := by omega
      clear hts hds
      go_wp2_with fail
      go_ret
      refine ⟨?_, rfl⟩
      unfold digB
      rw [HD.out, dig_small gk (by omega), List.map_append, textB_append, HTX.out, HDX.out]
      rfl
end Go.Proofs.YtjpcdbopioblaaaGreatDoor

/- What an assertion gives at each dynamic type that the thin package makes: closed facts, by the kernel. -/
namespace Go.Proofs.YtjpcdbopioblaaaGreatDoor
open Go.RowKit
theorem as_bool_bool (v : Value) (w : World) : (Instr.typeAssert (.iface 4 v) 20 4 true).run Tryz.prog w = .ok (.tuple #[v, .bool true]) w := by kernel_rfl
theorem as_bool_int (v : Value) (w : World) : (Instr.typeAssert (.iface 4 v) 20 3 true).run Tryz.prog w = .ok (.tuple #[.int .i64 0, .bool false]) w := by kernel_rfl
theorem as_bool_float (v : Value) (w : World) : (Instr.typeAssert (.iface 4 v) 20 86 true).run Tryz.prog w = .ok (.tuple #[.float .f64 0, .bool false]) w := by kernel_rfl
theorem as_bool_str (v : Value) (w : World) : (Instr.typeAssert (.iface 4 v) 20 9 true).run Tryz.prog w = .ok (.tuple #[.string ByteArray.empty, .bool false]) w := by kernel_rfl
theorem as_bool_list (v : Value) (w : World) : (Instr.typeAssert (.iface 4 v) 20 87 true).run Tryz.prog w = .ok (.tuple #[.slice none 0 0, .bool false]) w := by kernel_rfl
theorem as_bool_map (v : Value) (w : World) : (Instr.typeAssert (.iface 4 v) 20 90 true).run Tryz.prog w = .ok (.tuple #[.map none, .bool false]) w := by kernel_rfl
theorem as_bool_big (v : Value) (w : World) : (Instr.typeAssert (.iface 4 v) 20 152 true).run Tryz.prog w = .ok (.tuple #[.pointer none, .bool false]) w := by kernel_rfl
theorem as_bool_num (v : Value) (w : World) : (Instr.typeAssert (.iface 4 v) 20 154 true).run Tryz.prog w = .ok (.tuple #[.string ByteArray.empty, .bool false]) w := by kernel_rfl
theorem as_int_bool (v : Value) (w : World) : (Instr.typeAssert (.iface 3 v) 20 4 true).run Tryz.prog w = .ok (.tuple #[.bool false, .bool false]) w := by kernel_rfl
theorem as_int_int (v : Value) (w : World) : (Instr.typeAssert (.iface 3 v) 20 3 true).run Tryz.prog w = .ok (.tuple #[v, .bool true]) w := by kernel_rfl
theorem as_int_float (v : Value) (w : World) : (Instr.typeAssert (.iface 3 v) 20 86 true).run Tryz.prog w = .ok (.tuple #[.float .f64 0, .bool false]) w := by kernel_rfl
theorem as_int_str (v : Value) (w : World) : (Instr.typeAssert (.iface 3 v) 20 9 true).run Tryz.prog w = .ok (.tuple #[.string ByteArray.empty, .bool false]) w := by kernel_rfl
theorem as_int_list (v : Value) (w : World) : (Instr.typeAssert (.iface 3 v) 20 87 true).run Tryz.prog w = .ok (.tuple #[.slice none 0 0, .bool false]) w := by kernel_rfl
theorem as_int_map (v : Value) (w : World) : (Instr.typeAssert (.iface 3 v) 20 90 true).run Tryz.prog w = .ok (.tuple #[.map none, .bool false]) w := by kernel_rfl
theorem as_int_big (v : Value) (w : World) : (Instr.typeAssert (.iface 3 v) 20 152 true).run Tryz.prog w = .ok (.tuple #[.pointer none, .bool false]) w := by kernel_rfl
theorem as_int_num (v : Value) (w : World) : (Instr.typeAssert (.iface 3 v) 20 154 true).run Tryz.prog w = .ok (.tuple #[.string ByteArray.empty, .bool false]) w := by kernel_rfl
theorem as_float_bool (v : Value) (w : World) : (Instr.typeAssert (.iface 86 v) 20 4 true).run Tryz.prog w = .ok (.tuple #[.bool false, .bool false]) w := by kernel_rfl
theorem as_float_int (v : Value) (w : World) : (Instr.typeAssert (.iface 86 v) 20 3 true).run Tryz.prog w = .ok (.tuple #[.int .i64 0, .bool false]) w := by kernel_rfl
theorem as_float_float (v : Value) (w : World) : (Instr.typeAssert (.iface 86 v) 20 86 true).run Tryz.prog w = .ok (.tuple #[v, .bool true]) w := by kernel_rfl
theorem as_float_str (v : Value) (w : World) : (Instr.typeAssert (.iface 86 v) 20 9 true).run Tryz.prog w = .ok (.tuple #[.string ByteArray.empty, .bool false]) w := by kernel_rfl
theorem as_float_list (v : Value) (w : World) : (Instr.typeAssert (.iface 86 v) 20 87 true).run Tryz.prog w = .ok (.tuple #[.slice none 0 0, .bool false]) w := by kernel_rfl
theorem as_float_map (v : Value) (w : World) : (Instr.typeAssert (.iface 86 v) 20 90 true).run Tryz.prog w = .ok (.tuple #[.map none, .bool false]) w := by kernel_rfl
theorem as_float_big (v : Value) (w : World) : (Instr.typeAssert (.iface 86 v) 20 152 true).run Tryz.prog w = .ok (.tuple #[.pointer none, .bool false]) w := by kernel_rfl
theorem as_float_num (v : Value) (w : World) : (Instr.typeAssert (.iface 86 v) 20 154 true).run Tryz.prog w = .ok (.tuple #[.string ByteArray.empty, .bool false]) w := by kernel_rfl
theorem as_str_bool (v : Value) (w : World) : (Instr.typeAssert (.iface 9 v) 20 4 true).run Tryz.prog w = .ok (.tuple #[.bool false, .bool false]) w := by kernel_rfl
theorem as_str_int (v : Value) (w : World) : (Instr.typeAssert (.iface 9 v) 20 3 true).run Tryz.prog w = .ok (.tuple #[.int .i64 0, .bool false]) w := by kernel_rfl
theorem as_str_float (v : Value) (w : World) : (Instr.typeAssert (.iface 9 v) 20 86 true).run Tryz.prog w = .ok (.tuple #[.float .f64 0, .bool false]) w := by kernel_rfl
theorem as_str_str (v : Value) (w : World) : (Instr.typeAssert (.iface 9 v) 20 9 true).run Tryz.prog w = .ok (.tuple #[v, .bool true]) w := by kernel_rfl
theorem as_str_list (v : Value) (w : World) : (Instr.typeAssert (.iface 9 v) 20 87 true).run Tryz.prog w = .ok (.tuple #[.slice none 0 0, .bool false]) w := by kernel_rfl
theorem as_str_map (v : Value) (w : World) : (Instr.typeAssert (.iface 9 v) 20 90 true).run Tryz.prog w = .ok (.tuple #[.map none, .bool false]) w := by kernel_rfl
theorem as_str_big (v : Value) (w : World) : (Instr.typeAssert (.iface 9 v) 20 152 true).run Tryz.prog w = .ok (.tuple #[.pointer none, .bool false]) w := by kernel_rfl
theorem as_str_num (v : Value) (w : World) : (Instr.typeAssert (.iface 9 v) 20 154 true).run Tryz.prog w = .ok (.tuple #[.string ByteArray.empty, .bool false]) w := by kernel_rfl
theorem as_list_bool (v : Value) (w : World) : (Instr.typeAssert (.iface 87 v) 20 4 true).run Tryz.prog w = .ok (.tuple #[.bool false, .bool false]) w := by kernel_rfl
theorem as_list_int (v : Value) (w : World) : (Instr.typeAssert (.iface 87 v) 20 3 true).run Tryz.prog w = .ok (.tuple #[.int .i64 0, .bool false]) w := by kernel_rfl
theorem as_list_float (v : Value) (w : World) : (Instr.typeAssert (.iface 87 v) 20 86 true).run Tryz.prog w = .ok (.tuple #[.float .f64 0, .bool false]) w := by kernel_rfl
theorem as_list_str (v : Value) (w : World) : (Instr.typeAssert (.iface 87 v) 20 9 true).run Tryz.prog w = .ok (.tuple #[.string ByteArray.empty, .bool false]) w := by kernel_rfl
theorem as_list_list (v : Value) (w : World) : (Instr.typeAssert (.iface 87 v) 20 87 true).run Tryz.prog w = .ok (.tuple #[v, .bool true]) w := by kernel_rfl
theorem as_list_map (v : Value) (w : World) : (Instr.typeAssert (.iface 87 v) 20 90 true).run Tryz.prog w = .ok (.tuple #[.map none, .bool false]) w := by kernel_rfl
theorem as_list_big (v : Value) (w : World) : (Instr.typeAssert (.iface 87 v) 20 152 true).run Tryz.prog w = .ok (.tuple #[.pointer none, .bool false]) w := by kernel_rfl
theorem as_list_num (v : Value) (w : World) : (Instr.typeAssert (.iface 87 v) 20 154 true).run Tryz.prog w = .ok (.tuple #[.string ByteArray.empty, .bool false]) w := by kernel_rfl
theorem as_map_bool (v : Value) (w : World) : (Instr.typeAssert (.iface 90 v) 20 4 true).run Tryz.prog w = .ok (.tuple #[.bool false, .bool false]) w := by kernel_rfl
theorem as_map_int (v : Value) (w : World) : (Instr.typeAssert (.iface 90 v) 20 3 true).run Tryz.prog w = .ok (.tuple #[.int .i64 0, .bool false]) w := by kernel_rfl
theorem as_map_float (v : Value) (w : World) : (Instr.typeAssert (.iface 90 v) 20 86 true).run Tryz.prog w = .ok (.tuple #[.float .f64 0, .bool false]) w := by kernel_rfl
theorem as_map_str (v : Value) (w : World) : (Instr.typeAssert (.iface 90 v) 20 9 true).run Tryz.prog w = .ok (.tuple #[.string ByteArray.empty, .bool false]) w := by kernel_rfl
theorem as_map_list (v : Value) (w : World) : (Instr.typeAssert (.iface 90 v) 20 87 true).run Tryz.prog w = .ok (.tuple #[.slice none 0 0, .bool false]) w := by kernel_rfl
theorem as_map_map (v : Value) (w : World) : (Instr.typeAssert (.iface 90 v) 20 90 true).run Tryz.prog w = .ok (.tuple #[v, .bool true]) w := by kernel_rfl
theorem as_map_big (v : Value) (w : World) : (Instr.typeAssert (.iface 90 v) 20 152 true).run Tryz.prog w = .ok (.tuple #[.pointer none, .bool false]) w := by kernel_rfl
theorem as_map_num (v : Value) (w : World) : (Instr.typeAssert (.iface 90 v) 20 154 true).run Tryz.prog w = .ok (.tuple #[.string ByteArray.empty, .bool false]) w := by kernel_rfl
theorem as_nil_bool (w : World) : (Instr.typeAssert .nilIface 20 4 true).run Tryz.prog w = .ok (.tuple #[.bool false, .bool false]) w := by kernel_rfl
theorem as_nil_int (w : World) : (Instr.typeAssert .nilIface 20 3 true).run Tryz.prog w = .ok (.tuple #[.int .i64 0, .bool false]) w := by kernel_rfl
theorem as_nil_float (w : World) : (Instr.typeAssert .nilIface 20 86 true).run Tryz.prog w = .ok (.tuple #[.float .f64 0, .bool false]) w := by kernel_rfl
theorem as_nil_str (w : World) : (Instr.typeAssert .nilIface 20 9 true).run Tryz.prog w = .ok (.tuple #[.string ByteArray.empty, .bool false]) w := by kernel_rfl
theorem as_nil_list (w : World) : (Instr.typeAssert .nilIface 20 87 true).run Tryz.prog w = .ok (.tuple #[.slice none 0 0, .bool false]) w := by kernel_rfl
theorem as_nil_map (w : World) : (Instr.typeAssert .nilIface 20 90 true).run Tryz.prog w = .ok (.tuple #[.map none, .bool false]) w := by kernel_rfl
theorem as_nil_big (w : World) : (Instr.typeAssert .nilIface 20 152 true).run Tryz.prog w = .ok (.tuple #[.pointer none, .bool false]) w := by kernel_rfl
theorem as_nil_num (w : World) : (Instr.typeAssert .nilIface 20 154 true).run Tryz.prog w = .ok (.tuple #[.string ByteArray.empty, .bool false]) w := by kernel_rfl
theorem as_nil_error (w : World) : (Instr.typeAssert .nilIface 20 60 true).run Tryz.prog w = .ok (.tuple #[.nilIface, .bool false]) w := by kernel_rfl
theorem as_bool_error (v : Value) (w : World) : (Instr.typeAssert (.iface 4 v) 20 60 true).run Tryz.prog w = .ok (.tuple #[.nilIface, .bool false]) w := run_typeAssert_lacksB Tryz.underlying60 (by kernel_rfl) (by kernel_rfl) v 20 w
theorem as_int_error (v : Value) (w : World) : (Instr.typeAssert (.iface 3 v) 20 60 true).run Tryz.prog w = .ok (.tuple #[.nilIface, .bool false]) w := run_typeAssert_lacksB Tryz.underlying60 (by kernel_rfl) (by kernel_rfl) v 20 w
theorem as_float_error (v : Value) (w : World) : (Instr.typeAssert (.iface 86 v) 20 60 true).run Tryz.prog w = .ok (.tuple #[.nilIface, .bool false]) w := run_typeAssert_lacksB Tryz.underlying60 (by kernel_rfl) (by kernel_rfl) v 20 w
theorem as_str_error (v : Value) (w : World) : (Instr.typeAssert (.iface 9 v) 20 60 true).run Tryz.prog w = .ok (.tuple #[.nilIface, .bool false]) w := run_typeAssert_lacksB Tryz.underlying60 (by kernel_rfl) (by kernel_rfl) v 20 w
theorem as_list_error (v : Value) (w : World) : (Instr.typeAssert (.iface 87 v) 20 60 true).run Tryz.prog w = .ok (.tuple #[.nilIface, .bool false]) w := run_typeAssert_lacksB Tryz.underlying60 (by kernel_rfl) (by kernel_rfl) v 20 w
theorem as_map_error (v : Value) (w : World) : (Instr.typeAssert (.iface 90 v) 20 60 true).run Tryz.prog w = .ok (.tuple #[.nilIface, .bool false]) w := run_typeAssert_lacksB Tryz.underlying60 (by kernel_rfl) (by kernel_rfl) v 20 w
end Go.Proofs.YtjpcdbopioblaaaGreatDoor

/- Appending to a row of the call's own, with where the row lies behind it: plain laws of the model's append. -/
namespace Go.Proofs.YtjpcdbopioblaaaGreatDoor
open Go.RowKit

section
variable {P : Program} (w : World)

theorem append_where (base : Nat) (t ty e : TypeId) (i : TypeInfo) (z : Value) (size bytes : Nat) (ht : P.underlying t = some (.slice e)) (hi : P.info? e = some i) (hz : i.zero = some z)
    (hsize : i.size = size) (hby : i.bytes = bytes) (hzs : z.cells.size = size) (hsz : 0 < size)
    (v : Value) (n : Nat) (xs : List Value) (hown : w.ownsRow base e size v n xs)
    (a : Addr) (m c : Nat) (news : List Value) (hl : news.length = m * size) (hnews : ∀ j u, news[j]? = some u → w.cell? (a.add j) = some u) (h1 : ∀ u ∈ news, u.oneCell' = true)
    (hm : 0 < m) (h63 : n + m ≤ maxLen) (hbytes : (n + m) * bytes ≤ 140737488355328) (hbase : base ≤ w.heap.size) :
    ∃ v' w', (Builtin.append_ #[t, t] ty #[v, .slice (some a) m c]).run P w = .ok v' w' ∧ w'.ownsRow base e size v' (n + m) (xs ++ news) ∧ w.grownBy w' v.ownBlock ∧
      (v'.ownBlock = v.ownBlock ∨ v'.ownBlock = some w.heap.size) := by
  obtain ⟨v', w', hr, h2, h3, _⟩ := run_append_own (P := P) w base t ty e i z size bytes ht hi hz hsize hby hzs hsz v n xs hown a m c news hl hnews h1 h63 hbytes hbase
  refine ⟨v', w', hr, h2, h3, ?_⟩
  have hown' := hown
  have hsmall : n + m ≤ 9223372036854775807 := by simp only [maxLen] at h63; omega
  rcases hown.2 with ⟨rfl, rfl⟩ | ⟨g, cap, cur, rfl, _, hgg, hn, hcm, hcs, htake⟩
  · have hq := run_append_nil (P := P) w t ty e i z ht hi hz a m c news (by rw [hl, hsize]) hnews hm (by omega) (by rw [hby]; rw [Nat.zero_add] at hbytes; omega)
    rw [hr] at hq
    injection hq with hv _
    rw [hv]
    exact .inr rfl
  · by_cases hroom : n + m ≤ cap
    · have hq := run_append_room (P := P) w t ty e i ht hi g n cap cur hgg a m c news (by rw [hl, hsize]) hnews h1 hroom (by
        rw [hsize, hl, hcs, ← Nat.add_mul]; exact Nat.mul_le_mul_right _ hroom)
      rw [hr] at hq
      injection hq with hv _
      rw [hv]
      exact .inl rfl
    · have hcn : n ≤ cap := hn
      have hfit : Builtin.nextslicecap (n + m) cap * i.bytes ≤ 281474976710656 := by
        rw [hby]; exact growslice_fits (by omega) hbytes
      have hq := run_append_grow (P := P) w t ty e i z ht hi hz ⟨g, 0, none⟩ n cap xs (by rw [hown.1, hsize]) (hown'.cells rfl) a m c news (by rw [hl, hsize]) hnews (by omega) (by omega) hfit
      rw [hr] at hq
      injection hq with hv _
      rw [hv]
      exact .inr rfl

theorem wpList_append_run {ops : Array Oper} {rest : List Oper} {o : Oper} {a : Act} {Q : Exit → Act → World → Prop} (hgd : o.guard = none) (s x : Operand) (t : TypeId)
    (ho : o.op = .call { callee := .builtin .append, args := #[s, x], argTypes := #[t, t] }) (v u : Value) (hs : a.eval s = v) (hx : a.eval x = u)
    (h : ∃ v' w', (Builtin.append_ #[t, t] o.type #[v, u]).run P w = .ok v' w' ∧ wpList P ops Q rest (a.put o.dst v') w') : wpList P ops Q (o :: rest) a w :=
  wpList_plain hgd fun _ hK => by
    obtain ⟨v', w', hr, h⟩ := h
    unfold Oper.wp execOp
    simp only [ho, resolve, invoke, builtin, Sem.run_bind, Sem.run_pure, Result.andThen_ok, List.map_toArray, List.map_cons, List.map_nil, hs, hx, hr]
    exact hK _ _ h

theorem wpList_append_where {ops : Array Oper} {rest : List Oper} {o : Oper} {a : Act} {Q : Exit → Act → World → Prop} (hgd : o.guard = none) (s x : Operand) (t : TypeId)
    (ho : o.op = .call { callee := .builtin .append, args := #[s, x], argTypes := #[t, t] })
    (base : Nat) (e : TypeId) (i : TypeInfo) (z : Value) (size bytes : Nat) (ht : P.underlying t = some (.slice e)) (hi : P.info? e = some i) (hz : i.zero = some z)
    (hsize : i.size = size) (hby : i.bytes = bytes) (hzs : z.cells.size = size) (hsz : 0 < size)
    (v : Value) (n : Nat) (xs : List Value) (hs : a.eval s = v) (hown : w.ownsRow base e size v n xs)
    (ad : Addr) (m c : Nat) (news : List Value) (hx : a.eval x = .slice (some ad) m c) (hl : news.length = m * size) (hnews : ∀ j u, news[j]? = some u → w.cell? (ad.add j) = some u) (h1 : ∀ u ∈ news, u.oneCell' = true)
    (hm : 0 < m) (h63 : n + m ≤ maxLen) (hbytes : (n + m) * bytes ≤ 140737488355328) (hbase : base ≤ w.heap.size)
    (h : ∀ v' w', w'.ownsRow base e size v' (n + m) (xs ++ news) → w.grownBy w' v.ownBlock → (v'.ownBlock = v.ownBlock ∨ v'.ownBlock = some w.heap.size) → wpList P ops Q rest (a.put o.dst v') w') : wpList P ops Q (o :: rest) a w := by
  obtain ⟨v', w', hr, h2, h3, h4⟩ := append_where (P := P) w base t o.type e i z size bytes ht hi hz hsize hby hzs hsz v n xs hown ad m c news hl hnews h1 hm h63 hbytes hbase
  exact wpList_append_run w hgd s x t ho v _ hs hx ⟨v', w', hr, h v' w' h2 h3 h4⟩
end
end Go.Proofs.YtjpcdbopioblaaaGreatDoor

/-
  DERIVED: THE SHELF's CONTRACTS AT THIS DUMP, IN PLAIN WORDS (tools/lay-plain.mjs out of 'TryzIterTry.lean', which tools/lay-shelf.mjs wrote): THE SAME DECLARATIONS UNDER THE SAME NAMES: 'import', 'namespace', 'open', 'def', 'theorem' AND NOTHING ELSE: no command of the shelf's: FOR A HAND-IN. Each laying: the table of numbers ('.._ren') and one theorem, a field a fact of the dump's own or the kernel's comparison; each contract: ONE APPLICATION.
-/
namespace Go.Proofs
open Go.Shelf
def Tryz.keys155_ren : Go.Shelf.Ren := ⟨fun | 7 => 155 | 10 => 174 | n => n, fun | 23 => 90 | 26 => 9 | 3 => 20 | 28 => 177 | 0 => 0 | 27 => 176 | 33 => 42 | 4 => 4 | n => n, fun | n => n⟩
theorem Tryz.keys155 : Go.Proofs.SlLaysZ.n7 Tryz.prog Tryz.keys155_ren := {
  mixed := by kernel_rfl
  f7 := ⟨Tryz.f155.name, by decide, Tryz.func155.trans (congrArg some (by kernel_rfl))⟩
  f10 := ⟨Tryz.f174.name, by decide, Tryz.func174.trans (congrArg some (by kernel_rfl))⟩
  t0 := Tryz.underlying0
  a0 := Tryz.isAgg0
  z0 := Tryz.sizeOf0
  v0 := Tryz.zeroValue0
  t4 := Tryz.underlying4
  a4 := Tryz.isAgg4
  z4 := Tryz.sizeOf4
  v4 := Tryz.zeroValue4
  t23 := Tryz.underlying90
  a23 := Tryz.isAgg90
  z23 := Tryz.sizeOf90
  v23 := Tryz.zeroValue90
  t26 := Tryz.underlying9
  a26 := Tryz.isAgg9
  z26 := Tryz.sizeOf9
  v26 := Tryz.zeroValue9
  t27 := Tryz.underlying176
  a27 := Tryz.isAgg176
  z27 := Tryz.sizeOf176
  v27 := Tryz.zeroValue176
  t28 := Tryz.underlying177
  a28 := Tryz.isAgg177
  z28 := Tryz.sizeOf177
  v28 := Tryz.zeroValue177
  t33 := Tryz.underlying42
  a33 := Tryz.isAgg42
  z33 := Tryz.sizeOf42
  v33 := Tryz.zeroValue42 }
def Tryz.sorted154_ren : Go.Shelf.Ren := ⟨fun | 6 => 154 | 8 => 172 | 9 => 173 | 11 => 195 | 13 => 184 | 12 => 196 | 23 => 216 | 24 => 217 | 14 => 228 | 15 => 229 | 16 => 230 | 17 => 231 | 18 => 232 | 19 => 233 | 20 => 234 | 21 => 235 | 22 => 236 | 25 => 253 | 26 => 254 | 27 => 255 | 28 => 256 | 29 => 257 | 30 => 258 | 31 => 260 | n => n, fun | 26 => 9 | 28 => 177 | 24 => 25 | 0 => 0 | 3 => 3 | 37 => 71 | 48 => 229 | 50 => 116 | 4 => 4 | 40 => 260 | 39 => 259 | 45 => 81 | 5 => 5 | 9 => 9 | 51 => 278 | 55 => 274 | 57 => 284 | 58 => 282 | 33 => 42 | n => n, fun | n => n⟩
theorem Tryz.sorted154 : Go.Proofs.SlLaysZ.n6 Tryz.prog Tryz.sorted154_ren := {
  mixed := by kernel_rfl
  f6 := ⟨Tryz.f154.name, by decide, Tryz.func154.trans (congrArg some (by kernel_rfl))⟩
  f8 := ⟨Tryz.f172.name, by decide, Tryz.func172.trans (congrArg some (by kernel_rfl))⟩
  f11 := ⟨Tryz.f195.name, by decide, Tryz.func195.trans (congrArg some (by kernel_rfl))⟩
  t0 := Tryz.underlying0
  a0 := Tryz.isAgg0
  z0 := Tryz.sizeOf0
  v0 := Tryz.zeroValue0
  t24 := Tryz.underlying25
  a24 := Tryz.isAgg25
  z24 := Tryz.sizeOf25
  v24 := Tryz.zeroValue25
  t26 := Tryz.underlying9
  a26 := Tryz.isAgg9
  z26 := Tryz.sizeOf9
  v26 := Tryz.zeroValue9
  t28 := Tryz.underlying177
  a28 := Tryz.isAgg177
  z28 := Tryz.sizeOf177
  v28 := Tryz.zeroValue177
  i26 := by kernel_rfl }
def Tryz.sort173_ren : Go.Shelf.Ren := ⟨fun | 6 => 173 | 8 => 184 | 9 => 196 | 19 => 216 | 20 => 217 | 21 => 228 | 22 => 229 | 23 => 230 | 24 => 231 | 25 => 232 | 26 => 233 | 27 => 234 | 28 => 235 | 29 => 236 | 36 => 253 | 31 => 254 | 32 => 255 | 37 => 256 | 38 => 257 | 39 => 258 | 41 => 260 | n => n, fun | 27 => 25 | 29 => 9 | 3 => 3 | 32 => 71 | 26 => 25 | 0 => 0 | 44 => 229 | 46 => 116 | 4 => 4 | 36 => 260 | 35 => 259 | 41 => 81 | 5 => 5 | 9 => 9 | 53 => 278 | 57 => 274 | 63 => 284 | 64 => 282 | n => n, fun | n => n⟩
theorem Tryz.sort173 : Go.Proofs.SlLaysM.n6 Tryz.prog Tryz.sort173_ren := {
  mixed := by kernel_rfl
  f6 := ⟨Tryz.f173.name, by decide, Tryz.func173.trans (congrArg some (by kernel_rfl))⟩
  f8 := Tryz.func184.trans (congrArg some (by kernel_rfl))
  f9 := ⟨Tryz.f196.name, by decide, Tryz.func196.trans (congrArg some (by kernel_rfl))⟩
  f19 := Tryz.func216.trans (congrArg some (by kernel_rfl))
  f20 := Tryz.func217.trans (congrArg some (by kernel_rfl))
  f21 := ⟨Tryz.f228.name, by decide, Tryz.func228.trans (congrArg some (by kernel_rfl))⟩
  f22 := ⟨Tryz.f229.name, by decide, Tryz.func229.trans (congrArg some (by kernel_rfl))⟩
  f23 := ⟨Tryz.f230.name, by decide, Tryz.func230.trans (congrArg some (by kernel_rfl))⟩
  f24 := ⟨Tryz.f231.name, by decide, Tryz.func231.trans (congrArg some (by kernel_rfl))⟩
  f25 := ⟨Tryz.f232.name, by decide, Tryz.func232.trans (congrArg some (by kernel_rfl))⟩
  f26 := ⟨Tryz.f233.name, by decide, Tryz.func233.trans (congrArg some (by kernel_rfl))⟩
  f27 := ⟨Tryz.f234.name, by decide, Tryz.func234.trans (congrArg some (by kernel_rfl))⟩
  f28 := ⟨Tryz.f235.name, by decide, Tryz.func235.trans (congrArg some (by kernel_rfl))⟩
  f29 := ⟨Tryz.f236.name, by decide, Tryz.func236.trans (congrArg some (by kernel_rfl))⟩
  f31 := Tryz.func254.trans (congrArg some (by kernel_rfl))
  f32 := Tryz.func255.trans (congrArg some (by kernel_rfl))
  f36 := ⟨Tryz.f253.name, by decide, Tryz.func253.trans (congrArg some (by kernel_rfl))⟩
  f37 := ⟨Tryz.f256.name, by decide, Tryz.func256.trans (congrArg some (by kernel_rfl))⟩
  f38 := ⟨Tryz.f257.name, by decide, Tryz.func257.trans (congrArg some (by kernel_rfl))⟩
  f39 := ⟨Tryz.f258.name, by decide, Tryz.func258.trans (congrArg some (by kernel_rfl))⟩
  f41 := ⟨Tryz.f260.name, by decide, Tryz.func260.trans (congrArg some (by kernel_rfl))⟩
  t0 := Tryz.underlying0
  a0 := Tryz.isAgg0
  z0 := Tryz.sizeOf0
  v0 := Tryz.zeroValue0
  t3 := Tryz.underlying3
  a3 := Tryz.isAgg3
  z3 := Tryz.sizeOf3
  v3 := Tryz.zeroValue3
  t4 := Tryz.underlying4
  a4 := Tryz.isAgg4
  z4 := Tryz.sizeOf4
  v4 := Tryz.zeroValue4
  t5 := Tryz.underlying5
  a5 := Tryz.isAgg5
  z5 := Tryz.sizeOf5
  v5 := Tryz.zeroValue5
  t9 := Tryz.underlying9
  a9 := Tryz.isAgg9
  z9 := Tryz.sizeOf9
  v9 := Tryz.zeroValue9
  t26 := Tryz.underlying25
  a26 := Tryz.isAgg25
  z26 := Tryz.sizeOf25
  v26 := Tryz.zeroValue25
  t27 := Tryz.underlying25
  a27 := Tryz.isAgg25
  z27 := Tryz.sizeOf25
  v27 := Tryz.zeroValue25
  t29 := Tryz.underlying9
  a29 := Tryz.isAgg9
  z29 := Tryz.sizeOf9
  v29 := Tryz.zeroValue9
  t32 := Tryz.underlying71
  a32 := Tryz.isAgg71
  z32 := Tryz.sizeOf71
  v32 := Tryz.zeroValue71
  t35 := Tryz.underlying259
  a35 := Tryz.isAgg259
  z35 := Tryz.sizeOf259
  v35 := Tryz.zeroValue259
  t36 := Tryz.underlying260
  a36 := Tryz.isAgg260
  z36 := Tryz.sizeOf260
  v36 := Tryz.zeroValue260
  t41 := Tryz.underlying81
  a41 := Tryz.isAgg81
  z41 := Tryz.sizeOf81
  v41 := Tryz.zeroValue81
  t44 := Tryz.underlying229
  a44 := Tryz.isAgg229
  z44 := Tryz.sizeOf229
  v44 := Tryz.zeroValue229
  t46 := Tryz.underlying116
  a46 := Tryz.isAgg116
  z46 := Tryz.sizeOf116
  v46 := Tryz.zeroValue116
  t53 := Tryz.underlying278
  a53 := Tryz.isAgg278
  z53 := Tryz.sizeOf278
  v53 := Tryz.zeroValue278
  t57 := Tryz.underlying274
  a57 := Tryz.isAgg274
  z57 := Tryz.sizeOf274
  v57 := Tryz.zeroValue274
  t63 := Tryz.underlying284
  a63 := Tryz.isAgg284
  z63 := Tryz.sizeOf284
  v63 := Tryz.zeroValue284
  t64 := Tryz.underlying282
  a64 := Tryz.isAgg282
  z64 := Tryz.sizeOf282
  v64 := Tryz.zeroValue282 }
open Go.RowKit Go.Maps Go.Sort Go.Shelf in
/-- slices.Sort's two contracts at this dump, at the fence that asks nothing. -/
theorem Tryz.sorts154 (m : Nat) : AnyZ.SortsIn Tryz.prog Tryz.sorted154_ren Fence.wide m :=
  ⟨fun blk off cap ss W hH hblk hsz => callsIn_wide.2 (AnyM.slices_Sort_string Tryz.sort173 blk off cap ss W hH hblk hsz),
   fun p cap W => callsIn_wide.2 (AnyM.slices_Sort_string_none Tryz.sort173 p cap W)⟩
open Go.RowKit Go.Maps Go.Sort Go.Shelf in
/-- **maps.Keys[map[string]any,string,any], at whatever map, the nil one too:** a function value over ONE NEW BLOCK, which holds the map. -/
theorem Tryz.maps_Keys_155 (mb : Option Nat) (W : World) : CallsIn Fence.wide 5 Tryz.prog 155 #[.map mb] W fun e w' => e = .returned (.func (.func 174) #[] #[.pointer (some ⟨W.heap.size, 0, none⟩)]) ∧ w' = W.alloc (.cells #[.map mb] 90) :=
  AnyZ.keys_in Tryz.keys155 Fence.wide 5 trivial rfl mb W
open Go.RowKit Go.Maps Go.Sort Go.Shelf in
/-- **slices.Sorted[string] AT WHAT maps.Keys[map[string]any,string,any] HANDED BACK FOR A MAP THAT IS NOT nil** ('w': the world AHEAD of maps.Keys' call): A NEW SLICE THAT HOLDS THE MAP's KEYS, SORTED; nil just where it has none; nothing that lay before has turned. -/
theorem Tryz.slices_Sorted_keys_154_155 {H : Type} (b nn : Nat) (D0 : DataW H) (R : Value → Option (DataW H × List MemPlace)) (w : World) (hown : w.ownsMap Tryz.prog 9 R b nn D0) (hmax : Maps.size D0 ≤ maxLen) (hbytes : Maps.size D0 * 16 ≤ 140737488355328) :
    CallsIn Fence.wide 5 Tryz.prog 154 #[.func (.func 174) #[] #[.pointer (some ⟨w.heap.size, 0, none⟩)]] (w.alloc (.cells #[.map (some b)] 90)) fun e w' => ∃ (v : Value) (ss : List (List UInt8)), e = .returned v ∧ ss.Perm (strKeys D0) ∧
      w'.ownsRow (w.alloc (.cells #[.map (some b)] 90)).heap.size 9 1 v ss.length ((ss.mergeSort (fun x y => decide (x ≤ y))).map encStr) ∧ (v = .slice none 0 0 ↔ ss = []) ∧ Below (w.alloc (.cells #[.map (some b)] 90)).heap.size (w.alloc (.cells #[.map (some b)] 90)) w' := by
  have hbl := hown.lt
  have hseq : SeqGives Fence.wide 2 Tryz.prog 174 #[.pointer (some ⟨w.heap.size, 0, none⟩)] encStr (fun ss => ss.Perm (strKeys D0)) (Maps.size D0) (w.alloc (.cells #[.map (some b)] 90)) :=
    AnyZ.keys_gives (ρ := Tryz.keys155_ren) { Tryz.keys155 with } Fence.wide _ trivial rfl (by omega) w.heap.size b nn D0 _ (by simp) (by simp) (by
      obtain ⟨es, clock, hb, Ft, hs, hD⟩ := hown
      exact ⟨es, clock, (Below.heap_alloc _ _ b hbl).trans hb, Ft, hs, hD⟩)
  exact AnyZ.sorted_in Tryz.sorted154 Fence.wide 5 trivial trivial trivial trivial rfl (by omega) (Tryz.sorts154 _) (enters_of Tryz.func173 (by kernel_rfl) rfl) 174 #[.pointer (some ⟨w.heap.size, 0, none⟩)] trivial (enters_of Tryz.func174 (by kernel_rfl) rfl) _ _ hmax hbytes _ hseq
open Go.RowKit Go.Maps Go.Sort Go.Shelf in
/-- **.. AND FOR THE nil MAP: nil.** -/
theorem Tryz.slices_Sorted_keys_nil_154_155 (w : World) :
    CallsIn Fence.wide 5 Tryz.prog 154 #[.func (.func 174) #[] #[.pointer (some ⟨w.heap.size, 0, none⟩)]] (w.alloc (.cells #[.map none] 90)) fun e w' => ∃ (v : Value) (ss : List (List UInt8)), e = .returned v ∧ ss = [] ∧
      w'.ownsRow (w.alloc (.cells #[.map none] 90)).heap.size 9 1 v ss.length ((ss.mergeSort (fun x y => decide (x ≤ y))).map encStr) ∧ (v = .slice none 0 0 ↔ ss = []) ∧ Below (w.alloc (.cells #[.map none] 90)).heap.size (w.alloc (.cells #[.map none] 90)) w' := by
  have hseq : SeqGives Fence.wide 2 Tryz.prog 174 #[.pointer (some ⟨w.heap.size, 0, none⟩)] encStr (fun ss : List (List UInt8) => ss = []) 0 (w.alloc (.cells #[.map none] 90)) :=
    AnyZ.keys_gives_nil (ρ := Tryz.keys155_ren) { Tryz.keys155 with } Fence.wide _ trivial rfl w.heap.size _ (by simp) (by simp)
  exact AnyZ.sorted_in Tryz.sorted154 Fence.wide 5 trivial trivial trivial trivial rfl (by omega) (Tryz.sorts154 _) (enters_of Tryz.func173 (by kernel_rfl) rfl) 174 #[.pointer (some ⟨w.heap.size, 0, none⟩)] trivial (enters_of Tryz.func174 (by kernel_rfl) rfl) _ 0 (Nat.zero_le _) (by omega) _ hseq
end Go.Proofs

/- A region that draws its order, in which a load may be taken first although a store of the same region, later than the load, writes its cell: plain laws of orders, after the model house's 'wpAnyH'. -/
namespace Go.Proofs.YtjpcdbopioblaaaGreatDoor

section
variable {P : Program} {ops : Array Oper} {Q : Exit → Act → World → Prop} {md : Region.Mode} {S : World → Prop} {k : Nat}

/-- Whatever order is picked from here on, and S holds behind every operation that is carried out before number k. -/
def wpAnyK (P : Program) (md : Region.Mode) (ops : Array Oper) (Q : Exit → Act → World → Prop) (S : World → Prop) (k : Nat) : Nat → Array Bool → Act → World → Prop
  | 0, listed, a, w => Region.ready md ops listed = [] ∧ Q .normal a w
  | fuel + 1, listed, a, w =>
    (Region.ready md ops listed = [] → Q .normal a w) ∧
    ∀ i ∈ Region.ready md ops listed, wpOp P ops Q i (fun a' w' => (i ≠ k → listed.getD k true = false → S w') ∧ wpAnyK P md ops Q S k fuel (listed.setIfInBounds i true) a' w') a w

theorem wpAny_of_kept : ∀ (fuel : Nat) (listed : Array Bool) (a : Act) (w : World), wpAnyK P md ops Q S k fuel listed a w → wpAny P md ops Q fuel listed a w
  | 0, _, _, _, h => h
  | fuel + 1, _, _, _, h => ⟨h.1, fun i hi => wpOp_mono (fun a' w' h' => wpAny_of_kept fuel _ a' w' h'.2) (h.2 i hi)⟩

/-- Once number k has come up nothing is asked any more. -/
theorem wpAnyK_of_any : ∀ (fuel : Nat) (listed : Array Bool) (a : Act) (w : World), listed.getD k true = true → wpAny P md ops Q fuel listed a w → wpAnyK P md ops Q S k fuel listed a w
  | 0, _, _, _, _, h => h
  | fuel + 1, listed, _, _, hk, h => ⟨h.1, fun i hi => wpOp_mono (fun a' w' h' => ⟨fun _ e => absurd (hk.symm.trans e) (by decide), wpAnyK_of_any fuel _ a' w' (by
      by_cases hik : i = k
      · subst hik
        rcases Nat.lt_or_ge i listed.size with h1 | h1
        · simp [Array.getD, h1]
        · simp [Array.getD, h1]
      · rw [getD_set_ne true hik]; exact hk) h'⟩) (h.2 i hi)⟩

/-- The operations of the cone C wait for number i, each directly or through another one of C. -/
def coneB (md : Region.Mode) (ops : Array Oper) (C : List Nat) (i : Nat) : Bool :=
  C.all fun c => ((ops[c]?).map fun o => o.after.any fun e => Region.binds md e && (e.on == i || C.contains e.on)).getD false

theorem cone_waits {C : List Nat} {i j : Nat} {listed : Array Bool} (hC : coneB md ops C i = true) (hl : ∀ c ∈ C, listed.getD c true = false) (hi : listed.getD i true = false) (hj : j ∈ Region.ready md ops listed) : j ∉ C := by
  intro hm
  obtain ⟨_, oj, hoj, hall⟩ := mem_ready.1 hj
  have h1 := List.all_eq_true.1 hC j hm
  rw [hoj] at h1
  simp only [Option.map_some, Option.getD_some] at h1
  obtain ⟨e, he, h2⟩ := Array.any_eq_true'.1 h1
  simp only [Bool.and_eq_true, Bool.or_eq_true, beq_iff_eq, List.contains_iff_mem] at h2
  have h3 := hall e he h2.1
  have h4 : listed.getD e.on true = false := by
    rcases h2.2 with h | h
    · rw [h]; exact hi
    · exact hl _ h
  rcases Nat.lt_or_ge e.on listed.size with h' | h'
  · simp [h'] at h3 h4; rw [h3] at h4; cases h4
  · simp [Array.getElem?_eq_none h'] at h3

theorem wpAnyK_first {i : Nat} {oi : Oper} {v : Value} {C : List Nat} (hi : ops[i]? = some oi) (hsel : ∀ (j : Nat) (o : Oper) cs b, ops[j]? = some o → o.op ≠ .select cs b)
    (hQ : ∀ c a w, Q (.panic c) (a.put oi.dst v) w → Q (.panic c) a w) (hC : coneB md ops C i = true) (hkC : k ∈ C) (hiC : i ∉ C) :
    ∀ (fuel : Nat) (listed : Array Bool) (a : Act) (w : World),
      (∀ j oj, ops[j]? = some oj → j ≠ i → listed.getD j true = false → (∀ e ∈ oj.after, Region.binds md e = true → e.on ≠ i) → oi.apart ops oj = true) →
      i ∈ Region.ready md ops listed → YieldsIf P ops S oi v a → S w → (∀ c ∈ C, listed.getD c true = false) →
      wpAnyK P md ops Q S k fuel (listed.setIfInBounds i true) (a.put oi.dst v) w → wpAnyK P md ops Q S k (fuel + 1) listed a w := by
  intro fuel
  induction fuel with
  | zero =>
    intro listed a w _ hr hy hS hl H
    refine ⟨fun h => (by rw [h] at hr; cases hr), fun j hj => ?_⟩
    by_cases hji : j = i
    · subst hji; exact hy.wpOp hi hS ⟨fun _ _ => hS, H⟩
    · have := ready_mono hj hji
      rw [H.1] at this
      cases this
  | succ fuel ih =>
    intro listed a w hfree hr hy hS hl H
    refine ⟨fun h => (by rw [h] at hr; cases hr), fun j hj => ?_⟩
    by_cases hji : j = i
    · subst hji; exact hy.wpOp hi hS ⟨fun _ _ => hS, H⟩
    · have h1 := H.2 j (ready_mono hj hji)
      obtain ⟨hjun, oj, hoj, hall⟩ := mem_ready.1 hj
      have hiun : listed.getD i true = false := (mem_ready.1 hr).1
      have hnot : ∀ e ∈ oj.after, Region.binds md e = true → e.on ≠ i := fun e he hb heq => by
        have h1 := hall e he hb
        have h0 := (mem_ready.1 hr).1
        rw [heq] at h1
        rcases Nat.lt_or_ge i listed.size with h' | h'
        · simp [h'] at h0 h1; rw [h0] at h1; cases h1
        · simp [Array.getElem?_eq_none h'] at h1
      have hjC : j ∉ C := cone_waits hC hl hiun hj
      have hjk : j ≠ k := fun e => hjC (by rw [e]; exact hkC)
      have hik : i ≠ k := fun e => hiC (by rw [e]; exact hkC)
      have hkl : (listed.setIfInBounds i true).getD k true = false := by rw [getD_set_ne true hik]; exact hl k hkC
      have h2 := wpOp_putIf hoj (hfree j oj hoj hji hjun hnot) (fun cs b => hsel i oi cs b hi) (fun cs b => hsel j oj cs b hoj) hQ hy h1
      have hfree' : ∀ m om, ops[m]? = some om → m ≠ i → (listed.setIfInBounds j true).getD m true = false →
          (∀ e ∈ om.after, Region.binds md e = true → e.on ≠ i) → oi.apart ops om = true := fun m om hm hmi hun hno => by
        refine hfree m om hm hmi ?_ hno
        by_cases hjm : j = m
        · subst hjm; exact hjun
        · rw [getD_set_ne true hjm] at hun; exact hun
      have hl' : ∀ c ∈ C, (listed.setIfInBounds j true).getD c true = false := fun c hc => by
        rw [getD_set_ne true (fun e => hjC (by rw [e]; exact hc))]; exact hl c hc
      refine wpOp_mono (fun a' w' h3 => ⟨fun _ _ => h3.2.1 hjk hkl, ih (listed.setIfInBounds j true) a' w' hfree' (ready_mono hr (Ne.symm hji)) h3.1 (h3.2.1 hjk hkl) hl' ?_⟩) h2
      rw [Array.setIfInBounds_comm _ _ hji]
      exact h3.2.2

/-- Take number i first: it yields v in every world that meets S, and number k (that may break S) waits for it. -/
theorem wpAnyK_take {oi : Oper} {v : Value} {fuel : Nat} {listed : Array Bool} {a : Act} {w : World} (i : Nat) (C : List Nat) (hi : ops[i]? = some oi)
    (hs : Region.noSelect ops = true) (hf : Region.free md ops listed i = true) (hr : (Region.ready md ops listed).contains i = true) (hC : coneB md ops C i = true) (hkC : C.contains k = true) (hiC : C.contains i = false) (hl : (C.all fun c => !listed.getD c true) = true)
    (hQ : ∀ c a w, Q (.panic c) (a.put oi.dst v) w → Q (.panic c) a w) (hy : YieldsIf P ops S oi v a) (hS : S w)
    (h : wpAnyK P md ops Q S k fuel (listed.setIfInBounds i true) (a.put oi.dst v) w) : wpAnyK P md ops Q S k (fuel + 1) listed a w :=
  wpAnyK_first hi (Region.noSelect_spec hs) hQ hC (by simpa using hkC) (by simpa using hiC) fuel listed a w (Region.free_spec hi hf) (by simpa using hr) hy hS (fun c hc => by simpa using List.all_eq_true.1 hl c hc) h

/-- Each of these comes up next; S holds behind it. -/
def AllReadyK (P : Program) (md : Region.Mode) (ops : Array Oper) (Q : Exit → Act → World → Prop) (S : World → Prop) (k : Nat) (fuel : Nat) (listed : Array Bool) (a : Act) (w : World) (rs : List Nat) : Prop :=
  ∀ i ∈ rs, wpOp P ops Q i (fun a' w' => (i ≠ k → listed.getD k true = false → S w') ∧ wpAnyK P md ops Q S k fuel (listed.setIfInBounds i true) a' w') a w
theorem AllReadyK.nil {fuel : Nat} {listed : Array Bool} {a : Act} {w : World} : AllReadyK P md ops Q S k fuel listed a w [] := fun _ h => by cases h
theorem AllReadyK.cons {fuel : Nat} {listed : Array Bool} {a : Act} {w : World} {i : Nat} {o : Oper} {rs : List Nat} (ho : ops[i]? = some o)
    (h : ∀ K' : Act → World → Prop, Shut (∀ a w, S w → wpAnyK P md ops Q S k fuel (listed.setIfInBounds i true) a w → K' a w) → if Region.wanted o (yielded ops a.tmps) = true then Oper.wp P o a w K' Q else K' (a.put o.dst undef) w)
    (hs : AllReadyK P md ops Q S k fuel listed a w rs) : AllReadyK P md ops Q S k fuel listed a w (i :: rs) := fun j hj => by
  rcases List.mem_cons.1 hj with rfl | hj
  · exact wpOp_step ho (fun K' hK => h K' (fun a w hS hW => hK a w ⟨fun _ _ => hS, hW⟩))
  · exact hs j hj
/-- At number k itself nothing is asked. -/
theorem AllReadyK.cons_k {fuel : Nat} {listed : Array Bool} {a : Act} {w : World} {i : Nat} {o : Oper} {rs : List Nat} (ho : ops[i]? = some o) (hik : i = k)
    (h : ∀ K' : Act → World → Prop, Shut (∀ a w, wpAny P md ops Q fuel (listed.setIfInBounds i true) a w → K' a w) → if Region.wanted o (yielded ops a.tmps) = true then Oper.wp P o a w K' Q else K' (a.put o.dst undef) w)
    (hs : AllReadyK P md ops Q S k fuel listed a w rs) : AllReadyK P md ops Q S k fuel listed a w (i :: rs) := fun j hj => by
  rcases List.mem_cons.1 hj with rfl | hj
  · refine wpOp_step ho (fun K' hK => h K' (fun a w hW => hK a w ⟨fun e => absurd hik e, wpAnyK_of_any _ _ _ _ ?_ hW⟩))
    subst hik
    rcases Nat.lt_or_ge j listed.size with h1 | h1
    · simp [Array.getD, h1]
    · simp [Array.getD, h1]
  · exact hs j hj
theorem wpAnyK_ready {rs : List Nat} {fuel : Nat} {listed : Array Bool} {a : Act} {w : World} (hr : Region.ready md ops listed = rs) (hne : rs ≠ [])
    (h : AllReadyK P md ops Q S k fuel listed a w rs) : wpAnyK P md ops Q S k (fuel + 1) listed a w :=
  ⟨fun h0 => absurd (hr ▸ h0) hne, hr ▸ h⟩
theorem wp_region_kept {id : Nat} {a : Act} {w : World} (S : World → Prop) (k : Nat) (hm : P.follows .mixedOrders = true)
    (h : wpAnyK P .any ops Q S k ops.size (Array.replicate ops.size false) a w.drew) : (Code.region id ops true).wp P Q a w :=
  wp_region_any hm (wpAny_of_kept _ _ _ _ h)
end
end Go.Proofs.YtjpcdbopioblaaaGreatDoor

/- The JSON encoder's encodeFloat64 walked at a half. -/
namespace Go.Proofs.YtjpcdbopioblaaaGreatDoor
open Go.RowKit

/-- How a half compares. -/
structure HalfCmp (F A : Nat) : Prop where
  same : FloatKind.f64.format.order F F = some .eq
  low : FloatKind.f64.format.order F 18442240474082181119 = some .gt
  high : FloatKind.f64.format.order F 9218868437227405311 = some .lt
  abs : bits .andNot .u64 (F : Int) 9223372036854775808 = (A : Int)
  e21 : FloatKind.f64.format.order A 4921056587992461136 = some .lt
  zero : (FloatKind.f64.format.order A 0 = some .eq) ∨ (FloatKind.f64.format.order A 0 = some .gt ∧ FloatKind.f64.format.order A 4517329193108106637 = some .gt)
theorem halfCmp (h : Int) (h1 : -9007199254740992 < h) (h2 : h < 9007199254740992) : ∃ A, HalfCmp (halfBits h) A := by
  by_cases h0 : h = 0
  · subst h0
    have e : halfBits 0 = 0 := by decide +kernel
    rw [e]
    exact ⟨0, by decide +kernel, by decide +kernel, by decide +kernel, by decide +kernel, by decide +kernel, .inl (by decide +kernel)⟩
  · exact ⟨halfBits (h.natAbs : Int), half_order_same h h0 h1 h2, half_gt_low h h0 h1 h2, half_lt_high h h0 h1 h2, half_abs h h0 h1 h2, half_lt_e21 _ (by omega) (by omega), .inr ⟨half_gt_0 _ (by omega) (by omega), half_gt_e6 _ (by omega) (by omega)⟩⟩

noncomputable def EncS.cells {K : Wr} {B b eb : Nat} {l : List UInt8} {W : World} (h : EncS K B b eb l W) : Array Value := h.enc.choose
theorem EncS.row {K : Wr} {B b eb : Nat} {l : List UInt8} {W : World} (h : EncS K B b eb l W) : W.heap[eb]? = some (.cells h.cells 105 (0, 0)) ∧ h.cells.size = 65 := ⟨h.enc.choose_spec.1, h.enc.choose_spec.2.2⟩
theorem EncS.row0 {K : Wr} {B b eb : Nat} {l : List UInt8} {W : World} (h : EncS K B b eb l W) : h.cells[0]? = some (.iface K.T (.pointer (some ⟨b, 0, none⟩))) := h.enc.choose_spec.2.1
/-- The buffer written. -/
theorem EncS.app {K : Wr} (hk : K.Keeps) {B b eb : Nat} {l : List UInt8} {W W' : World} {cs' : Array Value} (h : EncS K B b eb l W) (hb : W'.heap[eb]? = some (.cells cs' 105 (0, 0))) (hz : cs'.size = 65) (hc : cs'[0]? = h.cells[0]?) (hg : W.grownBy W' (some eb)) : EncS K B b eb l W' := by
  refine ⟨hk.kept _ _ _ _ _ h.bld (fun k o h1 _ h3 => ?_), ⟨cs', hb, hc.trans h.row0, hz⟩, h.ne, h.lo, Nat.le_trans h.size hg.size⟩
  by_cases hk2 : k = eb
  · subst hk2
    rw [h.row.1] at h1
    injection h1 with h1
    exact absurd h1.symm (h3 _ _)
  · exact (hg.block k (Array.getElem?_eq_some_iff.1 h1).1 (fun e => hk2 (by injection e))).trans h1
theorem enc_frame {B b eb : Nat} {W W1 W2 : World} (hlo : B ≤ eb) (hB : B ≤ W.heap.size) (hg : W.grownBy W1 (some eb)) (hb : Below B W1 W2) (hk : Lib.OthersKept 5 (some b) W1 W2) : Below B W W2 ∧ EKept b eb W W2 :=
  ⟨(below_gb (Below.refl B W) hg hB hlo).trans hb, (EKept.of_gb hg).trans (EKept.of_others hk)⟩

set_option maxRecDepth 100000 in
set_option maxHeartbeats 3200000 in
theorem encodeFloat64_any (K : Wr) (hk : K.Keeps) (hw : K.Writes) (h : Int) (B b eb : Nat) (l : List UInt8) (w : World) (hE : EncS K B b eb l w) (h1 : -9007199254740992 < h) (h2 : h < 9007199254740992) (hl : l.length ≤ 140737488355000) :
    Calls Tryz.prog 128 #[.pointer (some ⟨eb, 0, none⟩), .float .f64 (halfBits h)] w (EncPost K B b eb (l ++ numBytes h) w) := by
  obtain ⟨A, hA⟩ := halfCmp h h1 h2
  have HE := Lib.hid hE
  have HA : Hid (∀ (cs : Array Value) (wx : World), wx.heap[eb]? = some (.cells cs 105 (0, 0)) → cs.size = 65 → Calls Tryz.prog 159 #[.slice (some ⟨eb, 1, none⟩) 0 64, .float .f64 (halfBits h), .int .u8 102, .int .i64 (-1), .int .i64 64] wx (AppPost eb (numBytes h) cs wx)) := Lib.hid fun cs wx h3 h4 => appendFloat_any h eb cs wx h1 h2 h3 h4
  have hnl := numBytes_len h h1 h2
  generalize halfBits h = F at *
  generalize numBytes h = t at *
  have HN := Lib.hid (fun wx => isNaN_any F wx hA.same)
  have HB := Lib.hid (fun wx => abs_any F A wx hA.abs)
  have hmx := fun ts tt wx => run_max_gt (P := Tryz.prog) ts tt .f64 F 18442240474082181119 wx hA.low
  have hmn := fun ts tt wx => run_min_lt (P := Tryz.prog) ts tt .f64 F 9218868437227405311 wx hA.high
  have ho := hA.e21
  have hi := hE.iface
  have HZ := Lib.hid hA.zero
  clear hA hE h1 h2
  rcases HZ.out with hz | ⟨hz, hz2⟩
  all_goals
    go_enter Tryz.func128, Tryz.ntmps128
    go_wp2_with fail
    refine (HN.out _).mono ?_
    rintro e w2 ⟨rfl, rfl⟩
    go_wp2_with fail
    refine (HB.out _).mono ?_
    rintro e w2 ⟨rfl, rfl⟩
    go_wp2_with fail
    refine (HA.out _ _ HE.out.row.1 HE.out.row.2).mono ?_
    rintro e w3 ⟨cs', rfl, hb3, hz3, hc3, ht3, hg3⟩
    have HE3 := Lib.hid (HE.out.app hk hb3 hz3 hc3 hg3)
    have HG3 := Lib.hid (And.intro hb3 (And.intro ht3 hg3))
    clear hb3 hz3 hc3 ht3 hg3 hi
    have hi := HE3.out.iface
    have hme := hw.meth
    have hen := hw.enter
    go_wp2_with fail
    refine (hw.write B b eb 1 t.length 64 l t cs' w3 HE3.out.bld HG3.out.1 rfl HG3.out.2.1 (by omega) HE3.out.size).mono ?_
    rintro e w4 ⟨rfl, hw4⟩
    have HW4 := Lib.hid hw4
    clear hw4
    go_wp2_with fail
    go_end0
    exact ⟨rfl, HE3.out.wrote HW4.out, enc_frame HE.out.lo HE.out.size HG3.out.2.2 HW4.out.2.1 HW4.out.2.2⟩
end Go.Proofs.YtjpcdbopioblaaaGreatDoor

/- encode's arm of integers, for whatever writer. -/
namespace Go.Proofs.YtjpcdbopioblaaaGreatDoor
open Go.RowKit

set_option maxRecDepth 100000 in
set_option maxHeartbeats 3200000 in
theorem encode_int {K : Wr} (hKp : K.Keeps) (hKw : K.Writes) (n : Int) (B b eb : Nat) (l0 : List UInt8) (w : World) (h1 : -9223372036854775808 ≤ n) (h2 : n ≤ 9223372036854775807) (hS : EncS K B b eb l0 w) (hlen : l0.length + 40 ≤ 140737488355000) :
    Calls Tryz.prog 77 #[.pointer (some ⟨eb, 0, none⟩), .iface 3 (.int .i64 n)] w (EncPost K B b eb (l0 ++ intText n) w) := by
  have HS := Lib.hid (hS.drew hKp)
  have HW0 := Lib.hid hS.size
  have HN := Lib.hid (And.intro h1 h2)
  have HT := Lib.hid (intText_len h1 h2)
  have hc0 := hS.iface
  have HL := Lib.hid hlen
  have HK := Lib.hid hKp
  clear hS h1 h2 hlen hKp
  have hmw := hKw.meth
  have henw := hKw.enter
  have HKw := Lib.hid hKw
  clear hKw
  unfold EncPost
  have q1 := as_int_bool (.int .i64 n)
  have q2 := as_int_int (.int .i64 n)
  go_enter Tryz.func77, Tryz.ntmps77
  go_wp2_with fail
  go_region_held3 (fun W => W.cell? ⟨eb, 0, none⟩ = some (.iface K.T (.pointer (some ⟨b, 0, none⟩)))) (first | exact hc0 | exact HE3.out.iface | exact (HE3.out.wrote HW4.out).iface) (first
    | (refine (appendInt_any n eb _ _ HN.out.1 HN.out.2 HS.out.row.1 HS.out.row.2).mono ?_; rintro e w3 ⟨cs', rfl, hb3, hz3, hc3, ht3, hg3⟩; have HE3 := Lib.hid (HS.out.app HK.out hb3 hz3 hc3 hg3); have HG3 := Lib.hid (And.intro hb3 (And.intro ht3 hg3)); clear hb3 hz3 hc3 ht3 hg3)
    | (refine (HKw.out.write B b eb 1 (intText n).length 64 l0 (intText n) cs' w3 HE3.out.bld HG3.out.1 rfl HG3.out.2.1 (by have := HL.out; have := HT.out; omega) HE3.out.size).mono ?_; rintro e w4 ⟨rfl, hw4⟩; have HW4 := Lib.hid hw4; clear hw4))
  go_wp2_with fail
  go_end0
  have hf := enc_frame HS.out.lo HS.out.size HG3.out.2.2 HW4.out.2.1 HW4.out.2.2
  exact ⟨rfl, HE3.out.wrote HW4.out, ⟨hf.1.os, hf.1.tape, hf.1.output, hf.1.size, hf.1.block⟩, fun k o h => hf.2 k o h⟩
end Go.Proofs.YtjpcdbopioblaaaGreatDoor

/-
  DERIVED: THE SHELF's CONTRACTS AT THIS DUMP, IN PLAIN WORDS (tools/lay-plain.mjs out of 'TryzSortLayTry.lean', which tools/lay-shelf.mjs wrote): THE SAME DECLARATIONS UNDER THE SAME NAMES: 'import', 'namespace', 'open', 'def', 'theorem' AND NOTHING ELSE: no command of the shelf's: FOR A HAND-IN. Each laying: the table of numbers ('.._ren') and one theorem, a field a fact of the dump's own or the kernel's comparison; each contract: ONE APPLICATION.
-/
namespace Go.Proofs
open Go.Shelf
def Tryz.sort6_ren : Go.Shelf.Ren := ⟨fun | 6 => 162 | 10 => 181 | 11 => 182 | 12 => 183 | 13 => 184 | 14 => 185 | 24 => 216 | 25 => 217 | 26 => 218 | 27 => 219 | 28 => 220 | 29 => 221 | 30 => 222 | 31 => 223 | 32 => 224 | 33 => 225 | 34 => 246 | 35 => 247 | 36 => 248 | 37 => 249 | 38 => 250 | 39 => 259 | n => n, fun | 20 => 20 | 26 => 139 | 35 => 208 | 0 => 0 | 37 => 210 | 3 => 3 | 41 => 71 | 44 => 216 | 49 => 229 | 51 => 116 | 4 => 4 | 54 => 251 | 53 => 250 | 58 => 81 | 5 => 5 | 9 => 9 | 60 => 270 | 64 => 274 | 66 => 281 | 67 => 282 | 17 => 17 | 32 => 205 | 33 => 206 | 82 => 297 | 12 => 12 | 75 => 291 | 76 => 292 | 77 => 293 | 78 => 257 | 79 => 294 | 80 => 295 | n => n, fun | n => n⟩
theorem Tryz.sort6 : Go.Proofs.LaysGg.n6 Tryz.prog Tryz.sort6_ren := {
  mixed := by kernel_rfl
  f6 := Tryz.func162.trans (congrArg some (by kernel_rfl))
  f10 := Tryz.func181.trans (congrArg some (by kernel_rfl))
  f11 := Tryz.func182.trans (congrArg some (by kernel_rfl))
  f12 := Tryz.func183.trans (congrArg some (by kernel_rfl))
  f13 := Tryz.func184.trans (congrArg some (by kernel_rfl))
  f14 := Tryz.func185.trans (congrArg some (by kernel_rfl))
  f24 := Tryz.func216.trans (congrArg some (by kernel_rfl))
  f25 := Tryz.func217.trans (congrArg some (by kernel_rfl))
  f26 := Tryz.func218.trans (congrArg some (by kernel_rfl))
  f27 := Tryz.func219.trans (congrArg some (by kernel_rfl))
  f28 := Tryz.func220.trans (congrArg some (by kernel_rfl))
  f29 := Tryz.func221.trans (congrArg some (by kernel_rfl))
  f30 := Tryz.func222.trans (congrArg some (by kernel_rfl))
  f31 := Tryz.func223.trans (congrArg some (by kernel_rfl))
  f32 := Tryz.func224.trans (congrArg some (by kernel_rfl))
  f33 := Tryz.func225.trans (congrArg some (by kernel_rfl))
  f34 := Tryz.func246.trans (congrArg some (by kernel_rfl))
  f35 := Tryz.func247.trans (congrArg some (by kernel_rfl))
  f36 := Tryz.func248.trans (congrArg some (by kernel_rfl))
  f37 := Tryz.func249.trans (congrArg some (by kernel_rfl))
  f38 := Tryz.func250.trans (congrArg some (by kernel_rfl))
  f39 := Tryz.func259.trans (congrArg some (by kernel_rfl))
  t0 := Tryz.underlying0
  a0 := Tryz.isAgg0
  z0 := Tryz.sizeOf0
  v0 := Tryz.zeroValue0
  i0 := by kernel_rfl
  t3 := Tryz.underlying3
  a3 := Tryz.isAgg3
  z3 := Tryz.sizeOf3
  v3 := Tryz.zeroValue3
  i3 := by kernel_rfl
  t4 := Tryz.underlying4
  a4 := Tryz.isAgg4
  z4 := Tryz.sizeOf4
  v4 := Tryz.zeroValue4
  i4 := by kernel_rfl
  t5 := Tryz.underlying5
  a5 := Tryz.isAgg5
  z5 := Tryz.sizeOf5
  v5 := Tryz.zeroValue5
  i5 := by kernel_rfl
  t9 := Tryz.underlying9
  a9 := Tryz.isAgg9
  z9 := Tryz.sizeOf9
  v9 := Tryz.zeroValue9
  i9 := by kernel_rfl
  t12 := Tryz.underlying12
  a12 := Tryz.isAgg12
  z12 := Tryz.sizeOf12
  v12 := Tryz.zeroValue12
  i12 := by kernel_rfl
  t17 := Tryz.underlying17
  a17 := Tryz.isAgg17
  z17 := Tryz.sizeOf17
  v17 := Tryz.zeroValue17
  i17 := by kernel_rfl
  t20 := Tryz.underlying20
  a20 := Tryz.isAgg20
  z20 := Tryz.sizeOf20
  v20 := Tryz.zeroValue20
  i20 := by kernel_rfl
  t26 := Tryz.underlying139
  a26 := Tryz.isAgg139
  z26 := Tryz.sizeOf139
  v26 := Tryz.zeroValue139
  i26 := by kernel_rfl
  t32 := Tryz.underlying205
  a32 := Tryz.isAgg205
  z32 := Tryz.sizeOf205
  v32 := Tryz.zeroValue205
  i32 := by kernel_rfl
  t33 := Tryz.underlying206
  a33 := Tryz.isAgg206
  z33 := Tryz.sizeOf206
  v33 := Tryz.zeroValue206
  i33 := by kernel_rfl
  t35 := Tryz.underlying208
  a35 := Tryz.isAgg208
  z35 := Tryz.sizeOf208
  v35 := Tryz.zeroValue208
  i35 := by kernel_rfl
  t37 := Tryz.underlying210
  a37 := Tryz.isAgg210
  z37 := Tryz.sizeOf210
  v37 := Tryz.zeroValue210
  i37 := by kernel_rfl
  t41 := Tryz.underlying71
  a41 := Tryz.isAgg71
  z41 := Tryz.sizeOf71
  v41 := Tryz.zeroValue71
  i41 := by kernel_rfl
  t44 := Tryz.underlying216
  a44 := Tryz.isAgg216
  z44 := Tryz.sizeOf216
  v44 := Tryz.zeroValue216
  i44 := by kernel_rfl
  t49 := Tryz.underlying229
  a49 := Tryz.isAgg229
  z49 := Tryz.sizeOf229
  v49 := Tryz.zeroValue229
  i49 := by kernel_rfl
  t51 := Tryz.underlying116
  a51 := Tryz.isAgg116
  z51 := Tryz.sizeOf116
  v51 := Tryz.zeroValue116
  i51 := by kernel_rfl
  t53 := Tryz.underlying250
  a53 := Tryz.isAgg250
  z53 := Tryz.sizeOf250
  v53 := Tryz.zeroValue250
  i53 := by kernel_rfl
  t54 := Tryz.underlying251
  a54 := Tryz.isAgg251
  z54 := Tryz.sizeOf251
  v54 := Tryz.zeroValue251
  i54 := by kernel_rfl
  t58 := Tryz.underlying81
  a58 := Tryz.isAgg81
  z58 := Tryz.sizeOf81
  v58 := Tryz.zeroValue81
  i58 := by kernel_rfl
  t60 := Tryz.underlying270
  a60 := Tryz.isAgg270
  z60 := Tryz.sizeOf270
  v60 := Tryz.zeroValue270
  i60 := by kernel_rfl
  t64 := Tryz.underlying274
  a64 := Tryz.isAgg274
  z64 := Tryz.sizeOf274
  v64 := Tryz.zeroValue274
  i64 := by kernel_rfl
  t66 := Tryz.underlying281
  a66 := Tryz.isAgg281
  z66 := Tryz.sizeOf281
  v66 := Tryz.zeroValue281
  i66 := by kernel_rfl
  t67 := Tryz.underlying282
  a67 := Tryz.isAgg282
  z67 := Tryz.sizeOf282
  v67 := Tryz.zeroValue282
  i67 := by kernel_rfl
  t75 := Tryz.underlying291
  a75 := Tryz.isAgg291
  z75 := Tryz.sizeOf291
  v75 := Tryz.zeroValue291
  i75 := by kernel_rfl
  t76 := Tryz.underlying292
  a76 := Tryz.isAgg292
  z76 := Tryz.sizeOf292
  v76 := Tryz.zeroValue292
  i76 := by kernel_rfl
  t77 := Tryz.underlying293
  a77 := Tryz.isAgg293
  z77 := Tryz.sizeOf293
  v77 := Tryz.zeroValue293
  i77 := by kernel_rfl
  t78 := Tryz.underlying257
  a78 := Tryz.isAgg257
  z78 := Tryz.sizeOf257
  v78 := Tryz.zeroValue257
  i78 := by kernel_rfl
  t79 := Tryz.underlying294
  a79 := Tryz.isAgg294
  z79 := Tryz.sizeOf294
  v79 := Tryz.zeroValue294
  i79 := by kernel_rfl
  t80 := Tryz.underlying295
  a80 := Tryz.isAgg295
  z80 := Tryz.sizeOf295
  v80 := Tryz.zeroValue295
  i80 := by kernel_rfl
  t82 := Tryz.underlying297
  a82 := Tryz.isAgg297
  z82 := Tryz.sizeOf297
  v82 := Tryz.zeroValue297
  i82 := by kernel_rfl }
end Go.Proofs
