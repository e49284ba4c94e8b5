/- net/url's escape walked. -/
import Derived.Test.YtjpcdbopioblaaaGreatDoorUriEsc
import Derived.Test.YtjpcdbopioblaaaGreatDoorUriRepl
import Derived.Test.YtjpcdbopioblaaaGreatDoorUriBuf
namespace Go.Proofs.YtjpcdbopioblaaaGreatDoor
open Go.RowKit

/-- How many spaces, how many other signs to be escaped stand before i. -/
def spN (s : ByteArray) (i : Nat) : Nat := (s.data.toList.take i).countP fun c => c == 32
def hxN (s : ByteArray) (i : Nat) : Nat := (s.data.toList.take i).countP fun c => !keepB c && c != 32
theorem spN_succ {s : ByteArray} {i : Nat} (h : i < s.size) : spN s (i + 1) = spN s i + if s[i] == 32 then 1 else 0 := by
  have e0 : s.data.toList[i]'(by simpa using h) = s[i] := rfl
  unfold spN
  rw [List.take_succ_eq_append_getElem (by simpa using h), e0, List.countP_append]
  simp [List.countP_cons]
theorem hxN_succ {s : ByteArray} {i : Nat} (h : i < s.size) : hxN s (i + 1) = hxN s i + if !keepB s[i] && s[i] != 32 then 1 else 0 := by
  have e0 : s.data.toList[i]'(by simpa using h) = s[i] := rfl
  unfold hxN
  rw [List.take_succ_eq_append_getElem (by simpa using h), e0, List.countP_append]
  simp [List.countP_cons]
theorem spN_le (s : ByteArray) (i : Nat) : spN s i ≤ i := Nat.le_trans List.countP_le_length (List.length_take_le _ _)
theorem hxN_le (s : ByteArray) (i : Nat) : hxN s i ≤ i := Nat.le_trans List.countP_le_length (List.length_take_le _ _)
theorem spN_zero (s : ByteArray) : spN s 0 = 0 := by simp [spN]
theorem hxN_zero (s : ByteArray) : hxN s 0 = 0 := by simp [hxN]

/-- How far the text goes that the first bytes make. -/
def pos1 (s : ByteArray) (i : Nat) : Nat := ((s.data.toList.take i).flatMap enc1).length
theorem pos1_succ {s : ByteArray} {i : Nat} (h : i < s.size) : pos1 s (i + 1) = pos1 s i + (enc1 s[i]).length := by
  have e0 : s.data.toList[i]'(by simpa using h) = s[i] := rfl
  unfold pos1
  rw [List.take_succ_eq_append_getElem (by simpa using h), e0, List.flatMap_append, List.length_append]
  simp
theorem acc_succ {s : ByteArray} {i : Nat} (h : i < s.size) : (s.data.toList.take (i + 1)).flatMap enc1 = (s.data.toList.take i).flatMap enc1 ++ enc1 s[i] := by
  have e0 : s.data.toList[i]'(by simpa using h) = s[i] := rfl
  rw [List.take_succ_eq_append_getElem (by simpa using h), e0, List.flatMap_append]
  simp
theorem pos1_le (s : ByteArray) (i : Nat) : pos1 s i ≤ pos1 s s.size := by
  have hl : s.data.toList.length = s.size := Array.length_toList
  have h := congrArg (fun l => (l.flatMap enc1).length) (List.take_append_drop i s.data.toList)
  simp only [List.flatMap_append, List.length_append] at h
  unfold pos1
  rw [List.take_of_length_le (i := s.size) (by omega)]
  omega
theorem pos1_eq (s : ByteArray) : ∀ i, i ≤ s.size → pos1 s i = i + 2 * hxN s i
  | 0, _ => by simp [pos1, hxN]
  | i + 1, h => by
    have h1 := pos1_eq s i (by omega)
    have hl := (enc_len s[i]).1
    rw [pos1_succ (by omega), h1, hxN_succ (by omega), hl]
    by_cases hk : keepB s[i] = true
    · simp [hk]; omega
    · by_cases h32 : s[i] = 32
      · simp [h32]; omega
      · simp [hk, h32]; omega
theorem hexU_key : ∀ k : Fin 16, (((⟨#[48, 49, 50, 51, 52, 53, 54, 55, 56, 57, 65, 66, 67, 68, 69, 70]⟩ : ByteArray)[k.val]'k.isLt).toNat = (hexU k.val).toNat) := by decide +kernel
theorem hexU_at (z : Int) (h : 0 ≤ z ∧ z < 16) (hz) : ((⟨#[48, 49, 50, 51, 52, 53, 54, 55, 56, 57, 65, 66, 67, 68, 69, 70]⟩ : ByteArray)[z.toNat]'hz).toNat = (hexU z.toNat).toNat := hexU_key ⟨z.toNat, by omega⟩
theorem hexU_nat (k : Nat) (h : k < 16) (hz) : ((⟨#[48, 49, 50, 51, 52, 53, 54, 55, 56, 57, 65, 66, 67, 68, 69, 70]⟩ : ByteArray)[k]'hz).toNat = (hexU k).toNat := hexU_key ⟨k, h⟩
theorem ES.three {s : ByteArray} {w : World} {b b4 N J : Nat} {acc : List UInt8} {wr : World} (h : ES s w b b4 N acc wr) (hl : acc.length = J) (hJ : J + (0 + 1 + 1 + 1) ≤ N) (x y : UInt8) :
    ES s w b b4 N (acc ++ [37, x, y]) (((wr.setCell ⟨b, J, none⟩ (.int .u8 37)).setCell ⟨b, J + 1, none⟩ (.int .u8 x.toNat)).setCell ⟨b, J + 2, none⟩ (.int .u8 y.toNat)) := by
  subst hl
  have h1 := h.push (by omega) 37
  have h2 := h1.push (by simp; omega) x
  have h3 := h2.push (by simp; omega) y
  simpa using h3
/-- While spaces are turned in the buffer b. -/
structure EC (w : World) (b N : Nat) (acc : List UInt8) (wr : World) : Prop where
  eb : ∃ W, EB W b N acc wr
  below : Below w.heap.size w wr
  le : w.heap.size ≤ b
/-- 'copy(t, s)' onto a fresh row. -/
def copyW (w2 : World) (b : Nat) (cs : Array Value) (s : ByteArray) : World := w2.setRow b (cs.toList.take 0 ++ Lib.byteCells s.data.toList ++ cs.toList.drop (0 + s.size)).toArray
theorem run_copyW {w2 : World} {b : Nat} {cs : Array Value} {T : TypeId} (hb : w2.heap[b]? = some (.cells cs T (0, 0))) (s : ByteArray) (hs : s.size ≤ cs.size) (cap : Nat) (ty : TypeId) : (Builtin.copy_ #[58, 9] ty #[.slice (some ⟨b, 0, none⟩) s.size cap, .string s]).run Tryz.prog w2 = .ok (.int .i64 s.size) (copyW w2 b cs s) :=
  Lib.run_copy_row_string w2 _ _ ty 5 b 0 s.size cap s cs T Tryz.underlying58 (by kernel_rfl) hb (Nat.le_refl _) (by omega)
theorem EC.copyW {w w2 : World} {b : Nat} {cs : Array Value} {T : TypeId} (hb : w2.heap[b]? = some (.cells cs T (0, 0))) (s : ByteArray) (hB : Below w.heap.size w w2) (hle : w.heap.size ≤ b) : EC w b s.size s.data.toList (copyW w2 b cs s) := by
  have hl : s.data.toList.length = s.size := Array.length_toList
  have hlt : b < w2.heap.size := lt_of_block hb
  have hsz : (Lib.byteCells s.data.toList).length = s.size := by rw [Lib.byteCells_length, hl]
  refine ⟨⟨_, World.grownBy.refl _ _, ⟨_, T, setRow_heap w2 b cs _ T (0, 0) hb, ?_, ?_⟩, by omega⟩, below_setRow hB hle _, hle⟩
  · simp [hsz]
  · rw [hl]
    simp only [List.take_zero, List.nil_append]
    rw [List.take_append_of_le_length (by omega), List.take_of_length_le (by omega)]
theorem copyA {w wr : World} (s : ByteArray) (hB : Below w.heap.size w wr) (cap : Nat) (ty : TypeId) (cs : Array Value) (T : TypeId) (hs : s.size ≤ cs.size) : (Builtin.copy_ #[58, 9] ty #[.slice (some ⟨wr.heap.size, 0, none⟩) s.size cap, .string s]).run Tryz.prog (wr.alloc (.cells cs T)) = .ok (.int .i64 s.size) (copyW (wr.alloc (.cells cs T)) wr.heap.size cs s) ∧ EC w wr.heap.size s.size s.data.toList (copyW (wr.alloc (.cells cs T)) wr.heap.size cs s) :=
  ⟨run_copyW (heap_alloc_new wr _) s hs cap ty, EC.copyW (heap_alloc_new wr _) s (hB.trans (((Below.refl _ _).alloc (Nat.le_refl _) _).mono hB.size)) hB.size⟩
theorem copyB {w wr : World} (s : ByteArray) (hB : Below w.heap.size w wr) (cap : Nat) (ty : TypeId) (o : Obj) : (Builtin.copy_ #[58, 9] ty #[.slice (some ⟨wr.heap.size + 1, 0, none⟩) s.size cap, .string s]).run Tryz.prog ((wr.alloc o).alloc (.cells (madeCells #[Value.int .u8 0] s.size) 5)) = .ok (.int .i64 s.size) (copyW ((wr.alloc o).alloc (.cells (madeCells #[Value.int .u8 0] s.size) 5)) (wr.heap.size + 1) (madeCells #[Value.int .u8 0] s.size) s) ∧ EC w (wr.heap.size + 1) s.size s.data.toList (copyW ((wr.alloc o).alloc (.cells (madeCells #[Value.int .u8 0] s.size) 5)) (wr.heap.size + 1) (madeCells #[Value.int .u8 0] s.size) s) := by
  have hb := heap_alloc_new (wr.alloc o) (.cells (madeCells #[Value.int .u8 0] s.size) 5)
  have hz : (wr.alloc o).heap.size = wr.heap.size + 1 := by simp
  rw [hz] at hb
  have hB2 : Below w.heap.size w ((wr.alloc o).alloc (.cells (madeCells #[Value.int .u8 0] s.size) 5)) := hB.trans ((((Below.refl _ _).alloc (Nat.le_refl _) _).alloc (by simp) _).mono hB.size)
  have hs : s.size ≤ (madeCells #[Value.int .u8 0] s.size).size := by rw [size_madeCells]; exact Nat.le_refl _
  exact ⟨run_copyW hb s hs cap ty, EC.copyW hb s hB2 (by have := hB.size; omega)⟩
theorem EC.cell {w : World} {b N : Nat} {acc : List UInt8} {wr : World} (h : EC w b N acc wr) (j : Nat) (hj : j < N) : ∃ v, wr.cell? ⟨b, j, none⟩ = some v := by
  obtain ⟨W, hb⟩ := h.eb
  exact hb.cell j hj
theorem EC.free {w : World} {b N : Nat} {acc : List UInt8} {wr : World} (h : EC w b N acc wr) (o : Nat) : wr.frozen? ⟨b, o, none⟩ = false := by
  obtain ⟨W, hb⟩ := h.eb
  exact hb.free o
theorem EC.put {w : World} {b N : Nat} {acc : List UInt8} {wr : World} (h : EC w b N acc wr) {j : Nat} (hj : j < acc.length) (c : UInt8) : EC w b N (acc.set j c) (wr.setCell ⟨b, j, none⟩ (.int .u8 c.toNat)) := by
  obtain ⟨W, hb⟩ := h.eb
  exact ⟨⟨W, hb.put hj c⟩, h.below.setCell (p := ⟨b, j, none⟩) h.le _, h.le⟩
theorem EC.text {w : World} {b N : Nat} {acc : List UInt8} {wr : World} (h : EC w b N acc wr) (hN : acc.length = N) (cap : Nat) : (convert 58 9 (.slice (some ⟨b, 0, none⟩) N cap)).run Tryz.prog wr = .ok (.string ⟨acc.toArray⟩) wr := by
  obtain ⟨W, hb⟩ := h.eb
  exact hb.text hN cap
def spF (c : UInt8) : UInt8 := if c = 32 then 43 else c
/-- The first i spaces turned. -/
def spL (s : ByteArray) (i : Nat) : List UInt8 := (s.data.toList.take i).map spF ++ s.data.toList.drop i
theorem spL_zero (s : ByteArray) : spL s 0 = s.data.toList := by simp [spL]
theorem spL_len (s : ByteArray) (i : Nat) : (spL s i).length = s.size := by
  have hl : s.data.toList.length = s.size := Array.length_toList
  have h := congrArg List.length (List.take_append_drop i s.data.toList)
  rw [List.length_append] at h
  unfold spL
  rw [List.length_append, List.length_map]
  omega
theorem spL_succ {s : ByteArray} {i : Nat} (h : i < s.size) : spL s (i + 1) = (spL s i).set i (spF s[i]) := by
  have hl : s.data.toList.length = s.size := Array.length_toList
  have e0 : s.data.toList[i]'(by simpa using h) = s[i] := rfl
  unfold spL
  rw [List.take_succ_eq_append_getElem (by omega), e0, List.map_append, List.drop_eq_getElem_cons (i := i) (by omega), List.set_append]
  rw [if_neg (by simp; omega)]
  have : i - ((s.data.toList.take i).map spF).length = 0 := by simp; omega
  rw [this]
  simp
theorem spL_same {s : ByteArray} {i : Nat} (h : i < s.size) (hc : s[i] ≠ 32) : spL s (i + 1) = spL s i := by
  have hl : s.data.toList.length = s.size := Array.length_toList
  have e0 : s.data.toList[i]'(by simpa using h) = s[i] := rfl
  unfold spL
  rw [List.take_succ_eq_append_getElem (by omega), e0, List.map_append, List.drop_eq_getElem_cons (i := i) (by omega), e0]
  simp [spF, hc]
theorem spL_all {s : ByteArray} (h2 : hxN s s.size = 0) : spL s s.size = s.data.toList.flatMap enc1 := by
  have hl : s.data.toList.length = s.size := Array.length_toList
  unfold hxN at h2
  rw [List.take_of_length_le (by omega), List.countP_eq_zero] at h2
  unfold spL
  rw [List.take_of_length_le (by omega), List.drop_of_length_le (by omega), List.append_nil]
  have h : ∀ l : List UInt8, (∀ c ∈ l, enc1 c = [spF c]) → l.map spF = l.flatMap enc1 := fun l => by
    induction l with
    | nil => intro _; rfl
    | cons c l ih => intro h; rw [List.flatMap_cons, List.map_cons, h c (by simp), ih fun d hd => h d (by simp [hd])]; rfl
  refine h _ fun c hc => ?_
  have b := h2 c hc
  simp at b
  unfold enc1 enc2 spF
  by_cases h32 : c = 32
  · rw [if_pos h32, if_pos h32]
  · rw [if_neg h32, if_neg h32, if_pos]
    cases hk : keepB c
    · exact absurd (b hk) h32
    · rfl
theorem and15_all : ((List.range 256).all fun n => decide (bits .and .u8 (n : Int) 15 = ((n % 16 : Nat) : Int))) = true := by decide +kernel
theorem and15 (c : UInt8) : bits .and .u8 (c.toNat : Int) 15 = ((c.toNat % 16 : Nat) : Int) := by
  have := List.all_eq_true.1 and15_all c.toNat (by simpa using c.toNat_lt)
  simpa using this
theorem none_escaped {s : ByteArray} (h1 : spN s s.size = 0) (h2 : hxN s s.size = 0) : (⟨(s.data.toList.flatMap enc1).toArray⟩ : ByteArray) = s := by
  have hl : s.data.toList.length = s.size := Array.length_toList
  unfold spN at h1
  unfold hxN at h2
  rw [List.take_of_length_le (by omega), List.countP_eq_zero] at h1 h2
  have h : ∀ l : List UInt8, (∀ c ∈ l, enc1 c = [c]) → l.flatMap enc1 = l := fun l => by
    induction l with
    | nil => intro _; rfl
    | cons c l ih => intro h; rw [List.flatMap_cons, h c (by simp), ih fun d hd => h d (by simp [hd])]; rfl
  rw [h _ fun c hc => ?_]
  have a := h1 c hc
  have b := h2 c hc
  simp at a b
  unfold enc1 enc2
  rw [if_neg a]
  rw [if_pos (by cases hk : keepB c <;> simp_all)]

set_option maxRecDepth 100000 in
set_option maxHeartbeats 3200000 in
theorem escape_any (s : ByteArray) (w : World) (hT : TabU w) (hs : s.size ≤ 1000000) :
    Calls Tryz.prog 166 #[.string s, .int .u8 32] w fun e w' => e = .returned (.string ⟨(s.data.toList.flatMap enc1).toArray⟩) ∧ Below w.heap.size w w' := by
  have hconv := fun wx : World => Lib.run_convert_string_bytes (P := Tryz.prog) wx 9 58 5 s Tryz.underlying9 Tryz.underlying58 Tryz.underlying5
  have HT := Lib.hid hT
  have HB := Lib.hid (bytes_below w 5 s)
  have hview := bytes_view w 5 s
  clear hT
  go_enter Tryz.func166, Tryz.ntmps166
  go_wp2_with fail
  have hvw := hview
  generalize Lib.bytesWorld w 5 s = W1 at *
  have HV := Lib.hid hvw
  have HCV := Lib.hid hconv
  clear hview hvw hconv
  go_loopg [5, 6, 19] (s.size) (fun gk s5 s6 s19 wr => ∃ i : Nat, s5 = .int .i64 (spN s i) ∧ s6 = .int .i64 (hxN s i) ∧ s19 = .int .i64 i ∧ i ≤ s.size ∧ gk = s.size - i ∧ wr = W1)
  case atStart => exact ⟨0, by rw [spN_zero]; rfl, by rw [hxN_zero]; rfl, rfl, Nat.zero_le _, rfl, rfl⟩
  case round =>
    obtain ⟨i, rfl, rfl, rfl, hi, rfl, rfl⟩ := hrel
    have hsp := spN_le s i
    have hhx := hxN_le s i
    by_cases hlt : i < s.size
    · have hj : (i : Int) < (s.size : Int) := by omega
      have hcell := HV.out i hlt
      have HS := Lib.hid (And.intro (spN_succ hlt) (hxN_succ hlt))
      have hpar := Lib.hid (keepB_ne (c := s[i]))
      by_cases hk : keepB s[i] = true
      · have hne := (hpar.out hk).2.2
        have hkk : (!keepB s[i]) = false := by simp [hk]
        have h1 : spN s (i + 1) = spN s i := by rw [HS.out.1, if_neg (by simp [hne])]; omega
        have h2 : hxN s (i + 1) = hxN s i := by rw [HS.out.2, if_neg (by simp [hk])]; omega
        have HH := Lib.hid (And.intro h1 h2)
        clear h1 h2 hne hpar HS
        go_wp2_with fail
        refine (shouldEscape_any s[i] _ (HT.out.below HB.out)).mono ?_
        rintro e w2 ⟨rfl, rfl⟩
        rw [hkk]
        clear hk hkk
        go_wp2_with fail
        go_roundg (s.size - (i + 1))
        case measure => omega
        case rel => exact ⟨i + 1, by rw [HH.out.1], by rw [HH.out.2], by go_num, by omega, rfl, rfl⟩
      · have hkk : (!keepB s[i]) = true := by simp [hk]
        by_cases hc : s[i].toNat = 32
        · have hc2 : s[i] = 32 := UInt8.toNat_inj.1 hc
          have h1 : spN s (i + 1) = spN s i + 1 := by rw [HS.out.1, if_pos (by simp [hc2])]
          have h2 : hxN s (i + 1) = hxN s i := by rw [HS.out.2, if_neg (by simp [hc2])]; omega
          have HH := Lib.hid (And.intro h1 h2)
          have hb : ((s[i].toNat : Int) == 32) = true := by simp; omega
          clear h1 h2 hpar HS hc2 hc
          go_wp2_with fail
          refine (shouldEscape_any s[i] _ (HT.out.below HB.out)).mono ?_
          rintro e w2 ⟨rfl, rfl⟩
          rw [hkk]
          clear hk hkk
          go_wp2_with fail
          go_roundg (s.size - (i + 1))
          case measure => omega
          case rel => exact ⟨i + 1, by rw [HH.out.1]; go_num, by rw [HH.out.2], by go_num, by omega, rfl, rfl⟩
        · have hc2 : s[i] ≠ 32 := fun e => hc (by rw [e]; rfl)
          have h1 : spN s (i + 1) = spN s i := by rw [HS.out.1, if_neg (by simp [hc2])]; omega
          have h2 : hxN s (i + 1) = hxN s i + 1 := by rw [HS.out.2, if_pos (by simp [hc2, hk])]
          have HH := Lib.hid (And.intro h1 h2)
          have hb : ((s[i].toNat : Int) == 32) = false := by simp; omega
          clear h1 h2 hpar HS hc2 hc
          go_wp2_with fail
          refine (shouldEscape_any s[i] _ (HT.out.below HB.out)).mono ?_
          rintro e w2 ⟨rfl, rfl⟩
          rw [hkk]
          clear hk hkk
          go_wp2_with fail
          go_roundg (s.size - (i + 1))
          case measure => omega
          case rel => exact ⟨i + 1, by rw [HH.out.1], by rw [HH.out.2]; go_num, by go_num, by omega, rfl, rfl⟩
    · obtain rfl : i = s.size := by omega
      by_cases h0 : spN s s.size = 0 ∧ hxN s s.size = 0
      · have HA := Lib.hid (none_escaped h0.1 h0.2)
        obtain ⟨z1, z2⟩ := h0
        rw [z1, z2]
        go_wp2_with fail
        go_ret
        exact ⟨by rw [HA.out]; rfl, HB.out⟩
      · have HN0 := Lib.hid h0
        clear h0
        by_cases hx0 : hxN s s.size = 0
        · have hs0 : spN s s.size ≠ 0 := fun e => HN0.out ⟨e, hx0⟩
          have e1 : ((spN s s.size : Int) == 0) = false := by simp; omega
          have HALL := Lib.hid (spL_all hx0)
          rw [hx0]
          clear hx0 HN0 hs0
          by_cases hN : s.size ≤ 64
          · as_aux_lemma =>
            have hN1 : (s.size : Int) ≤ 64 := by omega
            have HCP := Lib.hid (fun cs T (hc : s.size ≤ cs.size) => copyA s HB.out 64 3 cs T hc)
            have hcopy := fun cs T hc => (HCP.out cs T hc).1
            have HNN := Lib.hid hN
            clear hN
            go_wp2_with fail
            rw [hcopy _ _ (by simp; exact HNN.out)]
            go_wp2_with fail
            clear hcopy
            generalize wr.heap.size = b0 at *
            go_loopg [12] (s.size) (fun gk s12 wx => ∃ i : Nat, s12 = .int .i64 i ∧ i ≤ s.size ∧ gk = s.size - i ∧ Hid (EC w b0 s.size (spL s i) wx))
            case atStart => exact ⟨0, rfl, Nat.zero_le _, rfl, by rw [spL_zero]; exact Lib.hid (HCP.out _ _ (by simp; exact HNN.out)).2⟩
            case round =>
              obtain ⟨i, rfl, hi, rfl, HE⟩ := hrel
              clear HCP
              by_cases hlt : i < s.size
              · have hj : (i : Int) < (s.size : Int) := by omega
                by_cases hc : s[i].toNat = 32
                · have hc2 : s[i] = 32 := UInt8.toNat_inj.1 hc
                  have hb : ((s[i].toNat : Int) == 32) = true := by simp; omega
                  obtain ⟨v, hv⟩ := HE.out.cell i hlt
                  have hf := HE.out.free i
                  have HS : Hid (spL s (i + 1) = (spL s i).set i 43) := Lib.hid (by rw [spL_succ hlt, hc2]; rfl)
                  have HE1 : Hid (EC w b0 s.size ((spL s i).set i 43) (World.setCell _ ⟨b0, i, none⟩ (.int .u8 43))) := Lib.hid (HE.out.put (by rw [spL_len]; exact hlt) 43)
                  rw [← HS.out] at HE1
                  clear hc2 hc HE HS
                  go_wp2_with fail
                  go_roundg (s.size - (i + 1))
                  case measure => omega
                  case rel => exact ⟨i + 1, by go_num, by omega, rfl, HE1⟩
                · have hc2 : s[i] ≠ 32 := fun e => hc (by rw [e]; rfl)
                  have hb : ((s[i].toNat : Int) == 32) = false := by simp; omega
                  have HS := Lib.hid (spL_same hlt hc2)
                  clear hc2 hc
                  go_wp2_with fail
                  go_roundg (s.size - (i + 1))
                  case measure => omega
                  case rel => exact ⟨i + 1, by go_num, by omega, rfl, by rw [HS.out]; exact HE⟩
              · obtain rfl : i = s.size := by omega
                have ht := HE.out.text (by rw [spL_len])
                rw [HALL.out] at ht
                have HB3 := Lib.hid HE.out.below
                clear HE hlt hi
                go_wp2_with fail
                go_ret
                exact ⟨rfl, HB3.out⟩
          · as_aux_lemma =>
            have hN1 : ¬ ((s.size : Int) ≤ 64) := by omega
            have hmake := fun wx : World => made_row wx s.size (s.size : Int) rfl (by omega)
            have HCP := Lib.hid (fun o => copyB s HB.out s.size 3 o)
            have hcopy := fun o => (HCP.out o).1
            have HNN := Lib.hid hN
            clear hN
            go_wp2_with fail
            clear hcopy
            generalize wr.heap.size = b0 at *
            go_loopg [12] (s.size) (fun gk s12 wx => ∃ i : Nat, s12 = .int .i64 i ∧ i ≤ s.size ∧ gk = s.size - i ∧ Hid (EC w (b0 + 1) s.size (spL s i) wx))
            case atStart => exact ⟨0, rfl, Nat.zero_le _, rfl, by rw [spL_zero]; exact Lib.hid (HCP.out _).2⟩
            case round =>
              obtain ⟨i, rfl, hi, rfl, HE⟩ := hrel
              clear HCP
              by_cases hlt : i < s.size
              · have hj : (i : Int) < (s.size : Int) := by omega
                by_cases hc : s[i].toNat = 32
                · have hc2 : s[i] = 32 := UInt8.toNat_inj.1 hc
                  have hb : ((s[i].toNat : Int) == 32) = true := by simp; omega
                  obtain ⟨v, hv⟩ := HE.out.cell i hlt
                  have hf := HE.out.free i
                  have HS : Hid (spL s (i + 1) = (spL s i).set i 43) := Lib.hid (by rw [spL_succ hlt, hc2]; rfl)
                  have HE1 : Hid (EC w (b0 + 1) s.size ((spL s i).set i 43) (World.setCell _ ⟨(b0 + 1), i, none⟩ (.int .u8 43))) := Lib.hid (HE.out.put (by rw [spL_len]; exact hlt) 43)
                  rw [← HS.out] at HE1
                  clear hc2 hc HE HS
                  go_wp2_with fail
                  go_roundg (s.size - (i + 1))
                  case measure => omega
                  case rel => exact ⟨i + 1, by go_num, by omega, rfl, HE1⟩
                · have hc2 : s[i] ≠ 32 := fun e => hc (by rw [e]; rfl)
                  have hb : ((s[i].toNat : Int) == 32) = false := by simp; omega
                  have HS := Lib.hid (spL_same hlt hc2)
                  clear hc2 hc
                  go_wp2_with fail
                  go_roundg (s.size - (i + 1))
                  case measure => omega
                  case rel => exact ⟨i + 1, by go_num, by omega, rfl, by rw [HS.out]; exact HE⟩
              · obtain rfl : i = s.size := by omega
                have ht := HE.out.text (by rw [spL_len])
                rw [HALL.out] at ht
                have HB3 := Lib.hid HE.out.below
                clear HE hlt hi
                go_wp2_with fail
                go_ret
                exact ⟨rfl, HB3.out⟩
        · have e2 : ((hxN s s.size : Int) == 0) = false := by simp; omega
          by_cases hN : s.size + 2 * hxN s s.size ≤ 64
          · by_cases hs0 : spN s s.size = 0
            · as_aux_lemma =>
              have hN1 : (s.size : Int) + 2 * (hxN s s.size : Int) ≤ 64 := by omega
              have hN2 : (0 : Int) ≤ (s.size : Int) + 2 * (hxN s s.size : Int) := by omega
              have hN3 : ((s.size : Int) + 2 * (hxN s s.size : Int)).toNat = s.size + 2 * hxN s s.size := by omega
              have e1 : ((spN s s.size : Int) == 0) = true := by simp [hs0]
              have HST := Lib.hid (fun cs T hc => ES.startA (s := s) (N := s.size + 2 * hxN s s.size) HB.out cs T hc)
              have HTOT := Lib.hid (pos1_eq s s.size (Nat.le_refl _))
              have hconv := HCV.out
              have HNN := Lib.hid hN
              clear hs0 hx0 HN0 hN
              go_wp2_with fail
              generalize s.size + 2 * hxN s s.size = N at *
              generalize wr.heap.size = b0 at *
              go_loopg [13, 78] (s.size) (fun gk s13 s78 wx => ∃ i : Nat, s13 = .int .i64 (pos1 s i) ∧ s78 = .int .i64 i ∧ i ≤ s.size ∧ gk = s.size - i ∧ Hid (ES s w b0 (b0 + 1) N ((s.data.toList.take i).flatMap enc1) wx))
              case atStart => exact ⟨0, by simp [pos1], rfl, Nat.zero_le _, rfl, Lib.hid (HST.out _ _ HNN.out)⟩
              case round =>
                obtain ⟨i, rfl, rfl, hi, rfl, HE⟩ := hrel
                clear HST hconv
                by_cases hlt : i < s.size
                · have hj : (i : Int) < (s.size : Int) := by omega
                  have hcell := HE.out.view i hlt
                  have hJ0 : pos1 s i + (enc1 s[i]).length ≤ N := by rw [← pos1_succ hlt, ← HTOT.out]; exact pos1_le s (i + 1)
                  have hps := pos1_succ hlt
                  have hacc := acc_succ hlt
                  by_cases hc : s[i].toNat = 32
                  · have hc2 : s[i] = 32 := UInt8.toNat_inj.1 hc
                    have henc : enc1 s[i] = [43] := by rw [hc2]; rfl
                    rw [henc] at hJ0 hps hacc
                    simp only [List.length_cons, List.length_nil] at hJ0 hps
                    have hb : ((s[i].toNat : Int) == 32) = true := by simp; omega
                    have hJN : (pos1 s i : Int) < (N : Int) := by omega
                    obtain ⟨v, hv⟩ := HE.out.cell (pos1 s i) (by omega)
                    have hf := HE.out.free (pos1 s i)
                    have HE1 : Hid (ES s w b0 (b0 + 1) N ((s.data.toList.take i).flatMap enc1 ++ [43]) (World.setCell _ ⟨b0, pos1 s i, none⟩ (.int .u8 43))) := Lib.hid (HE.out.push (by show pos1 s i < N; omega) 43)
                    rw [← hacc] at HE1
                    have HPS := Lib.hid hps
                    clear hps hacc henc hc2 hc HE
                    generalize pos1 s i = J at *
                    go_wp2_with fail
                    go_roundg (s.size - (i + 1))
                    case measure => omega
                    case rel => exact ⟨i + 1, by rw [HPS.out]; go_num, by go_num, by omega, rfl, HE1⟩
                  · have hc2 : s[i] ≠ 32 := fun e => hc (by rw [e]; rfl)
                    have hb : ((s[i].toNat : Int) == 32) = false := by simp; omega
                    by_cases hk : keepB s[i] = true
                    · have hkk : (!keepB s[i]) = false := by simp [hk]
                      have henc : enc1 s[i] = [s[i]] := by unfold enc1 enc2; rw [if_neg hc2, if_pos hk]
                      rw [henc] at hJ0 hps hacc
                      simp only [List.length_cons, List.length_nil] at hJ0 hps
                      have hJN : (pos1 s i : Int) < (N : Int) := by omega
                      obtain ⟨v, hv⟩ := HE.out.cell (pos1 s i) (by omega)
                      have hf := HE.out.free (pos1 s i)
                      have HE1 : Hid (ES s w b0 (b0 + 1) N ((s.data.toList.take i).flatMap enc1 ++ [s[i]]) (World.setCell _ ⟨b0, pos1 s i, none⟩ (.int .u8 s[i].toNat))) := Lib.hid (HE.out.push (by show pos1 s i < N; omega) s[i])
                      rw [← hacc] at HE1
                      have HPS := Lib.hid hps
                      clear hps hacc henc hc2 hc hk
                      generalize pos1 s i = J at *
                      go_wp2_with fail
                      refine (shouldEscape_any s[i] _ (HT.out.below HE.out.below)).mono ?_
                      rintro e w2 ⟨rfl, rfl⟩
                      rw [hkk]
                      clear hkk HE
                      go_wp2_with fail
                      go_roundg (s.size - (i + 1))
                      case measure => omega
                      case rel => exact ⟨i + 1, by rw [HPS.out]; go_num, by go_num, by omega, rfl, HE1⟩
                    · have hkk : (!keepB s[i]) = true := by simp [hk]
                      have henc : enc1 s[i] = [37, hexU (s[i].toNat / 16), hexU (s[i].toNat % 16)] := by unfold enc1 enc2; rw [if_neg hc2, if_neg hk]
                      rw [henc] at hJ0 hps hacc
                      simp only [List.length_cons, List.length_nil] at hJ0 hps
                      have hJN : (pos1 s i : Int) < (N : Int) := by omega
                      have hJN1 : (pos1 s i : Int) + 1 < (N : Int) := by omega
                      have hJN2 : (pos1 s i : Int) + 2 < (N : Int) := by omega
                      have hJ1 : (0 : Int) ≤ (pos1 s i : Int) + 1 := by omega
                      have hJ2 : (0 : Int) ≤ (pos1 s i : Int) + 2 := by omega
                      have hJz : ((pos1 s i : Int) + 1).toNat = pos1 s i + 1 := by omega
                      have hJz2 : ((pos1 s i : Int) + 2).toNat = pos1 s i + 2 := by omega
                      obtain ⟨v, hv⟩ := HE.out.cell (pos1 s i) (by omega)
                      obtain ⟨v1, hv1⟩ := HE.out.cell (pos1 s i + 1) (by omega)
                      obtain ⟨v2, hv2⟩ := HE.out.cell (pos1 s i + 2) (by omega)
                      have hf := HE.out.free
                      have HPS := Lib.hid hps
                      have HACC := Lib.hid hacc
                      have HLEN : Hid (((s.data.toList.take i).flatMap enc1).length = pos1 s i) := Lib.hid rfl
                      clear hps hacc henc hc2 hc hk
                      generalize pos1 s i = J at *
                      go_wp2_with fail
                      refine (shouldEscape_any s[i] _ (HT.out.below HE.out.below)).mono ?_
                      rintro e w2 ⟨rfl, rfl⟩
                      rw [hkk]
                      clear hkk
                      have x0 : (0 : Int) ≤ (s[i].toNat : Int) / 16 ∧ (s[i].toNat : Int) / 16 < 16 := by have := s[i].toNat_lt; omega
                      have x1 : (0 : Int) ≤ bits .and .u8 (s[i].toNat : Int) 15 ∧ bits .and .u8 (s[i].toNat : Int) 15 < 16 := by rw [and15]; omega
                      go_wp2_with fail
                      go_roundg (s.size - (i + 1))
                      case measure => omega
                      case rel =>
                        refine ⟨i + 1, by rw [HPS.out]; go_num, by go_num, by omega, rfl, Lib.hid ?_⟩
                        rw [HACC.out, hexU_nat _ (by have := s[i].toNat_lt; omega), hexU_nat _ (by omega)]
                        exact HE.out.three HLEN.out hJ0 _ _
                · obtain rfl : i = s.size := by omega
                  have ht := HE.out.text (by show pos1 s s.size = N; exact HTOT.out)
                  have hfl : s.data.toList.take s.size = s.data.toList := List.take_of_length_le (by rw [Array.length_toList]; exact Nat.le_refl _)
                  rw [hfl] at ht
                  have HB3 := Lib.hid HE.out.below
                  clear HE hlt hi
                  go_wp2_with fail
                  go_ret
                  exact ⟨rfl, HB3.out⟩
            · as_aux_lemma =>
              have hN1 : (s.size : Int) + 2 * (hxN s s.size : Int) ≤ 64 := by omega
              have hN2 : (0 : Int) ≤ (s.size : Int) + 2 * (hxN s s.size : Int) := by omega
              have hN3 : ((s.size : Int) + 2 * (hxN s s.size : Int)).toNat = s.size + 2 * hxN s s.size := by omega
              have e1 : ((spN s s.size : Int) == 0) = false := by simp; omega
              have HST := Lib.hid (fun cs T hc => ES.startA (s := s) (N := s.size + 2 * hxN s s.size) HB.out cs T hc)
              have HTOT := Lib.hid (pos1_eq s s.size (Nat.le_refl _))
              have hconv := HCV.out
              have HNN := Lib.hid hN
              clear hs0 hx0 HN0 hN
              go_wp2_with fail
              generalize s.size + 2 * hxN s s.size = N at *
              generalize wr.heap.size = b0 at *
              go_loopg [13, 78] (s.size) (fun gk s13 s78 wx => ∃ i : Nat, s13 = .int .i64 (pos1 s i) ∧ s78 = .int .i64 i ∧ i ≤ s.size ∧ gk = s.size - i ∧ Hid (ES s w b0 (b0 + 1) N ((s.data.toList.take i).flatMap enc1) wx))
              case atStart => exact ⟨0, by simp [pos1], rfl, Nat.zero_le _, rfl, Lib.hid (HST.out _ _ HNN.out)⟩
              case round =>
                obtain ⟨i, rfl, rfl, hi, rfl, HE⟩ := hrel
                clear HST hconv
                by_cases hlt : i < s.size
                · have hj : (i : Int) < (s.size : Int) := by omega
                  have hcell := HE.out.view i hlt
                  have hJ0 : pos1 s i + (enc1 s[i]).length ≤ N := by rw [← pos1_succ hlt, ← HTOT.out]; exact pos1_le s (i + 1)
                  have hps := pos1_succ hlt
                  have hacc := acc_succ hlt
                  by_cases hc : s[i].toNat = 32
                  · have hc2 : s[i] = 32 := UInt8.toNat_inj.1 hc
                    have henc : enc1 s[i] = [43] := by rw [hc2]; rfl
                    rw [henc] at hJ0 hps hacc
                    simp only [List.length_cons, List.length_nil] at hJ0 hps
                    have hb : ((s[i].toNat : Int) == 32) = true := by simp; omega
                    have hJN : (pos1 s i : Int) < (N : Int) := by omega
                    obtain ⟨v, hv⟩ := HE.out.cell (pos1 s i) (by omega)
                    have hf := HE.out.free (pos1 s i)
                    have HE1 : Hid (ES s w b0 (b0 + 1) N ((s.data.toList.take i).flatMap enc1 ++ [43]) (World.setCell _ ⟨b0, pos1 s i, none⟩ (.int .u8 43))) := Lib.hid (HE.out.push (by show pos1 s i < N; omega) 43)
                    rw [← hacc] at HE1
                    have HPS := Lib.hid hps
                    clear hps hacc henc hc2 hc HE
                    generalize pos1 s i = J at *
                    go_wp2_with fail
                    go_roundg (s.size - (i + 1))
                    case measure => omega
                    case rel => exact ⟨i + 1, by rw [HPS.out]; go_num, by go_num, by omega, rfl, HE1⟩
                  · have hc2 : s[i] ≠ 32 := fun e => hc (by rw [e]; rfl)
                    have hb : ((s[i].toNat : Int) == 32) = false := by simp; omega
                    by_cases hk : keepB s[i] = true
                    · have hkk : (!keepB s[i]) = false := by simp [hk]
                      have henc : enc1 s[i] = [s[i]] := by unfold enc1 enc2; rw [if_neg hc2, if_pos hk]
                      rw [henc] at hJ0 hps hacc
                      simp only [List.length_cons, List.length_nil] at hJ0 hps
                      have hJN : (pos1 s i : Int) < (N : Int) := by omega
                      obtain ⟨v, hv⟩ := HE.out.cell (pos1 s i) (by omega)
                      have hf := HE.out.free (pos1 s i)
                      have HE1 : Hid (ES s w b0 (b0 + 1) N ((s.data.toList.take i).flatMap enc1 ++ [s[i]]) (World.setCell _ ⟨b0, pos1 s i, none⟩ (.int .u8 s[i].toNat))) := Lib.hid (HE.out.push (by show pos1 s i < N; omega) s[i])
                      rw [← hacc] at HE1
                      have HPS := Lib.hid hps
                      clear hps hacc henc hc2 hc hk
                      generalize pos1 s i = J at *
                      go_wp2_with fail
                      refine (shouldEscape_any s[i] _ (HT.out.below HE.out.below)).mono ?_
                      rintro e w2 ⟨rfl, rfl⟩
                      rw [hkk]
                      clear hkk HE
                      go_wp2_with fail
                      go_roundg (s.size - (i + 1))
                      case measure => omega
                      case rel => exact ⟨i + 1, by rw [HPS.out]; go_num, by go_num, by omega, rfl, HE1⟩
                    · have hkk : (!keepB s[i]) = true := by simp [hk]
                      have henc : enc1 s[i] = [37, hexU (s[i].toNat / 16), hexU (s[i].toNat % 16)] := by unfold enc1 enc2; rw [if_neg hc2, if_neg hk]
                      rw [henc] at hJ0 hps hacc
                      simp only [List.length_cons, List.length_nil] at hJ0 hps
                      have hJN : (pos1 s i : Int) < (N : Int) := by omega
                      have hJN1 : (pos1 s i : Int) + 1 < (N : Int) := by omega
                      have hJN2 : (pos1 s i : Int) + 2 < (N : Int) := by omega
                      have hJ1 : (0 : Int) ≤ (pos1 s i : Int) + 1 := by omega
                      have hJ2 : (0 : Int) ≤ (pos1 s i : Int) + 2 := by omega
                      have hJz : ((pos1 s i : Int) + 1).toNat = pos1 s i + 1 := by omega
                      have hJz2 : ((pos1 s i : Int) + 2).toNat = pos1 s i + 2 := by omega
                      obtain ⟨v, hv⟩ := HE.out.cell (pos1 s i) (by omega)
                      obtain ⟨v1, hv1⟩ := HE.out.cell (pos1 s i + 1) (by omega)
                      obtain ⟨v2, hv2⟩ := HE.out.cell (pos1 s i + 2) (by omega)
                      have hf := HE.out.free
                      have HPS := Lib.hid hps
                      have HACC := Lib.hid hacc
                      have HLEN : Hid (((s.data.toList.take i).flatMap enc1).length = pos1 s i) := Lib.hid rfl
                      clear hps hacc henc hc2 hc hk
                      generalize pos1 s i = J at *
                      go_wp2_with fail
                      refine (shouldEscape_any s[i] _ (HT.out.below HE.out.below)).mono ?_
                      rintro e w2 ⟨rfl, rfl⟩
                      rw [hkk]
                      clear hkk
                      have x0 : (0 : Int) ≤ (s[i].toNat : Int) / 16 ∧ (s[i].toNat : Int) / 16 < 16 := by have := s[i].toNat_lt; omega
                      have x1 : (0 : Int) ≤ bits .and .u8 (s[i].toNat : Int) 15 ∧ bits .and .u8 (s[i].toNat : Int) 15 < 16 := by rw [and15]; omega
                      go_wp2_with fail
                      go_roundg (s.size - (i + 1))
                      case measure => omega
                      case rel =>
                        refine ⟨i + 1, by rw [HPS.out]; go_num, by go_num, by omega, rfl, Lib.hid ?_⟩
                        rw [HACC.out, hexU_nat _ (by have := s[i].toNat_lt; omega), hexU_nat _ (by omega)]
                        exact HE.out.three HLEN.out hJ0 _ _
                · obtain rfl : i = s.size := by omega
                  have ht := HE.out.text (by show pos1 s s.size = N; exact HTOT.out)
                  have hfl : s.data.toList.take s.size = s.data.toList := List.take_of_length_le (by rw [Array.length_toList]; exact Nat.le_refl _)
                  rw [hfl] at ht
                  have HB3 := Lib.hid HE.out.below
                  clear HE hlt hi
                  go_wp2_with fail
                  go_ret
                  exact ⟨rfl, HB3.out⟩
          · by_cases hs0 : spN s s.size = 0
            · as_aux_lemma =>
              have hN1 : ¬ ((s.size : Int) + 2 * (hxN s s.size : Int) ≤ 64) := by omega
              have hmake := fun wx : World => made_row wx (s.size + 2 * hxN s s.size) ((s.size : Int) + 2 * (hxN s s.size : Int)) (by omega) (by have := hxN_le s s.size; omega)
              have hN2 : (0 : Int) ≤ (s.size : Int) + 2 * (hxN s s.size : Int) := by omega
              have hN3 : ((s.size : Int) + 2 * (hxN s s.size : Int)).toNat = s.size + 2 * hxN s s.size := by omega
              have e1 : ((spN s s.size : Int) == 0) = true := by simp [hs0]
              have HST := Lib.hid (fun o => ES.startB (s := s) (N := s.size + 2 * hxN s s.size) HB.out o)
              have HTOT := Lib.hid (pos1_eq s s.size (Nat.le_refl _))
              have hconv := HCV.out
              have HNN := Lib.hid hN
              clear hs0 hx0 HN0 hN
              go_wp2_with fail
              generalize s.size + 2 * hxN s s.size = N at *
              generalize wr.heap.size = b0 at *
              go_loopg [13, 78] (s.size) (fun gk s13 s78 wx => ∃ i : Nat, s13 = .int .i64 (pos1 s i) ∧ s78 = .int .i64 i ∧ i ≤ s.size ∧ gk = s.size - i ∧ Hid (ES s w (b0 + 1) (b0 + 1 + 1) N ((s.data.toList.take i).flatMap enc1) wx))
              case atStart => exact ⟨0, by simp [pos1], rfl, Nat.zero_le _, rfl, Lib.hid (HST.out _)⟩
              case round =>
                obtain ⟨i, rfl, rfl, hi, rfl, HE⟩ := hrel
                clear HST hconv hmake
                by_cases hlt : i < s.size
                · have hj : (i : Int) < (s.size : Int) := by omega
                  have hcell := HE.out.view i hlt
                  have hJ0 : pos1 s i + (enc1 s[i]).length ≤ N := by rw [← pos1_succ hlt, ← HTOT.out]; exact pos1_le s (i + 1)
                  have hps := pos1_succ hlt
                  have hacc := acc_succ hlt
                  by_cases hc : s[i].toNat = 32
                  · have hc2 : s[i] = 32 := UInt8.toNat_inj.1 hc
                    have henc : enc1 s[i] = [43] := by rw [hc2]; rfl
                    rw [henc] at hJ0 hps hacc
                    simp only [List.length_cons, List.length_nil] at hJ0 hps
                    have hb : ((s[i].toNat : Int) == 32) = true := by simp; omega
                    have hJN : (pos1 s i : Int) < (N : Int) := by omega
                    obtain ⟨v, hv⟩ := HE.out.cell (pos1 s i) (by omega)
                    have hf := HE.out.free (pos1 s i)
                    have HE1 : Hid (ES s w (b0 + 1) (b0 + 1 + 1) N ((s.data.toList.take i).flatMap enc1 ++ [43]) (World.setCell _ ⟨(b0 + 1), pos1 s i, none⟩ (.int .u8 43))) := Lib.hid (HE.out.push (by show pos1 s i < N; omega) 43)
                    rw [← hacc] at HE1
                    have HPS := Lib.hid hps
                    clear hps hacc henc hc2 hc HE
                    generalize pos1 s i = J at *
                    go_wp2_with fail
                    go_roundg (s.size - (i + 1))
                    case measure => omega
                    case rel => exact ⟨i + 1, by rw [HPS.out]; go_num, by go_num, by omega, rfl, HE1⟩
                  · have hc2 : s[i] ≠ 32 := fun e => hc (by rw [e]; rfl)
                    have hb : ((s[i].toNat : Int) == 32) = false := by simp; omega
                    by_cases hk : keepB s[i] = true
                    · have hkk : (!keepB s[i]) = false := by simp [hk]
                      have henc : enc1 s[i] = [s[i]] := by unfold enc1 enc2; rw [if_neg hc2, if_pos hk]
                      rw [henc] at hJ0 hps hacc
                      simp only [List.length_cons, List.length_nil] at hJ0 hps
                      have hJN : (pos1 s i : Int) < (N : Int) := by omega
                      obtain ⟨v, hv⟩ := HE.out.cell (pos1 s i) (by omega)
                      have hf := HE.out.free (pos1 s i)
                      have HE1 : Hid (ES s w (b0 + 1) (b0 + 1 + 1) N ((s.data.toList.take i).flatMap enc1 ++ [s[i]]) (World.setCell _ ⟨(b0 + 1), pos1 s i, none⟩ (.int .u8 s[i].toNat))) := Lib.hid (HE.out.push (by show pos1 s i < N; omega) s[i])
                      rw [← hacc] at HE1
                      have HPS := Lib.hid hps
                      clear hps hacc henc hc2 hc hk
                      generalize pos1 s i = J at *
                      go_wp2_with fail
                      refine (shouldEscape_any s[i] _ (HT.out.below HE.out.below)).mono ?_
                      rintro e w2 ⟨rfl, rfl⟩
                      rw [hkk]
                      clear hkk HE
                      go_wp2_with fail
                      go_roundg (s.size - (i + 1))
                      case measure => omega
                      case rel => exact ⟨i + 1, by rw [HPS.out]; go_num, by go_num, by omega, rfl, HE1⟩
                    · have hkk : (!keepB s[i]) = true := by simp [hk]
                      have henc : enc1 s[i] = [37, hexU (s[i].toNat / 16), hexU (s[i].toNat % 16)] := by unfold enc1 enc2; rw [if_neg hc2, if_neg hk]
                      rw [henc] at hJ0 hps hacc
                      simp only [List.length_cons, List.length_nil] at hJ0 hps
                      have hJN : (pos1 s i : Int) < (N : Int) := by omega
                      have hJN1 : (pos1 s i : Int) + 1 < (N : Int) := by omega
                      have hJN2 : (pos1 s i : Int) + 2 < (N : Int) := by omega
                      have hJ1 : (0 : Int) ≤ (pos1 s i : Int) + 1 := by omega
                      have hJ2 : (0 : Int) ≤ (pos1 s i : Int) + 2 := by omega
                      have hJz : ((pos1 s i : Int) + 1).toNat = pos1 s i + 1 := by omega
                      have hJz2 : ((pos1 s i : Int) + 2).toNat = pos1 s i + 2 := by omega
                      obtain ⟨v, hv⟩ := HE.out.cell (pos1 s i) (by omega)
                      obtain ⟨v1, hv1⟩ := HE.out.cell (pos1 s i + 1) (by omega)
                      obtain ⟨v2, hv2⟩ := HE.out.cell (pos1 s i + 2) (by omega)
                      have hf := HE.out.free
                      have HPS := Lib.hid hps
                      have HACC := Lib.hid hacc
                      have HLEN : Hid (((s.data.toList.take i).flatMap enc1).length = pos1 s i) := Lib.hid rfl
                      clear hps hacc henc hc2 hc hk
                      generalize pos1 s i = J at *
                      go_wp2_with fail
                      refine (shouldEscape_any s[i] _ (HT.out.below HE.out.below)).mono ?_
                      rintro e w2 ⟨rfl, rfl⟩
                      rw [hkk]
                      clear hkk
                      have x0 : (0 : Int) ≤ (s[i].toNat : Int) / 16 ∧ (s[i].toNat : Int) / 16 < 16 := by have := s[i].toNat_lt; omega
                      have x1 : (0 : Int) ≤ bits .and .u8 (s[i].toNat : Int) 15 ∧ bits .and .u8 (s[i].toNat : Int) 15 < 16 := by rw [and15]; omega
                      go_wp2_with fail
                      go_roundg (s.size - (i + 1))
                      case measure => omega
                      case rel =>
                        refine ⟨i + 1, by rw [HPS.out]; go_num, by go_num, by omega, rfl, Lib.hid ?_⟩
                        rw [HACC.out, hexU_nat _ (by have := s[i].toNat_lt; omega), hexU_nat _ (by omega)]
                        exact HE.out.three HLEN.out hJ0 _ _
                · obtain rfl : i = s.size := by omega
                  have ht := HE.out.text (by show pos1 s s.size = N; exact HTOT.out)
                  have hfl : s.data.toList.take s.size = s.data.toList := List.take_of_length_le (by rw [Array.length_toList]; exact Nat.le_refl _)
                  rw [hfl] at ht
                  have HB3 := Lib.hid HE.out.below
                  clear HE hlt hi
                  go_wp2_with fail
                  go_ret
                  exact ⟨rfl, HB3.out⟩
            · as_aux_lemma =>
              have hN1 : ¬ ((s.size : Int) + 2 * (hxN s s.size : Int) ≤ 64) := by omega
              have hmake := fun wx : World => made_row wx (s.size + 2 * hxN s s.size) ((s.size : Int) + 2 * (hxN s s.size : Int)) (by omega) (by have := hxN_le s s.size; omega)
              have hN2 : (0 : Int) ≤ (s.size : Int) + 2 * (hxN s s.size : Int) := by omega
              have hN3 : ((s.size : Int) + 2 * (hxN s s.size : Int)).toNat = s.size + 2 * hxN s s.size := by omega
              have e1 : ((spN s s.size : Int) == 0) = false := by simp; omega
              have HST := Lib.hid (fun o => ES.startB (s := s) (N := s.size + 2 * hxN s s.size) HB.out o)
              have HTOT := Lib.hid (pos1_eq s s.size (Nat.le_refl _))
              have hconv := HCV.out
              have HNN := Lib.hid hN
              clear hs0 hx0 HN0 hN
              go_wp2_with fail
              generalize s.size + 2 * hxN s s.size = N at *
              generalize wr.heap.size = b0 at *
              go_loopg [13, 78] (s.size) (fun gk s13 s78 wx => ∃ i : Nat, s13 = .int .i64 (pos1 s i) ∧ s78 = .int .i64 i ∧ i ≤ s.size ∧ gk = s.size - i ∧ Hid (ES s w (b0 + 1) (b0 + 1 + 1) N ((s.data.toList.take i).flatMap enc1) wx))
              case atStart => exact ⟨0, by simp [pos1], rfl, Nat.zero_le _, rfl, Lib.hid (HST.out _)⟩
              case round =>
                obtain ⟨i, rfl, rfl, hi, rfl, HE⟩ := hrel
                clear HST hconv hmake
                by_cases hlt : i < s.size
                · have hj : (i : Int) < (s.size : Int) := by omega
                  have hcell := HE.out.view i hlt
                  have hJ0 : pos1 s i + (enc1 s[i]).length ≤ N := by rw [← pos1_succ hlt, ← HTOT.out]; exact pos1_le s (i + 1)
                  have hps := pos1_succ hlt
                  have hacc := acc_succ hlt
                  by_cases hc : s[i].toNat = 32
                  · have hc2 : s[i] = 32 := UInt8.toNat_inj.1 hc
                    have henc : enc1 s[i] = [43] := by rw [hc2]; rfl
                    rw [henc] at hJ0 hps hacc
                    simp only [List.length_cons, List.length_nil] at hJ0 hps
                    have hb : ((s[i].toNat : Int) == 32) = true := by simp; omega
                    have hJN : (pos1 s i : Int) < (N : Int) := by omega
                    obtain ⟨v, hv⟩ := HE.out.cell (pos1 s i) (by omega)
                    have hf := HE.out.free (pos1 s i)
                    have HE1 : Hid (ES s w (b0 + 1) (b0 + 1 + 1) N ((s.data.toList.take i).flatMap enc1 ++ [43]) (World.setCell _ ⟨(b0 + 1), pos1 s i, none⟩ (.int .u8 43))) := Lib.hid (HE.out.push (by show pos1 s i < N; omega) 43)
                    rw [← hacc] at HE1
                    have HPS := Lib.hid hps
                    clear hps hacc henc hc2 hc HE
                    generalize pos1 s i = J at *
                    go_wp2_with fail
                    go_roundg (s.size - (i + 1))
                    case measure => omega
                    case rel => exact ⟨i + 1, by rw [HPS.out]; go_num, by go_num, by omega, rfl, HE1⟩
                  · have hc2 : s[i] ≠ 32 := fun e => hc (by rw [e]; rfl)
                    have hb : ((s[i].toNat : Int) == 32) = false := by simp; omega
                    by_cases hk : keepB s[i] = true
                    · have hkk : (!keepB s[i]) = false := by simp [hk]
                      have henc : enc1 s[i] = [s[i]] := by unfold enc1 enc2; rw [if_neg hc2, if_pos hk]
                      rw [henc] at hJ0 hps hacc
                      simp only [List.length_cons, List.length_nil] at hJ0 hps
                      have hJN : (pos1 s i : Int) < (N : Int) := by omega
                      obtain ⟨v, hv⟩ := HE.out.cell (pos1 s i) (by omega)
                      have hf := HE.out.free (pos1 s i)
                      have HE1 : Hid (ES s w (b0 + 1) (b0 + 1 + 1) N ((s.data.toList.take i).flatMap enc1 ++ [s[i]]) (World.setCell _ ⟨(b0 + 1), pos1 s i, none⟩ (.int .u8 s[i].toNat))) := Lib.hid (HE.out.push (by show pos1 s i < N; omega) s[i])
                      rw [← hacc] at HE1
                      have HPS := Lib.hid hps
                      clear hps hacc henc hc2 hc hk
                      generalize pos1 s i = J at *
                      go_wp2_with fail
                      refine (shouldEscape_any s[i] _ (HT.out.below HE.out.below)).mono ?_
                      rintro e w2 ⟨rfl, rfl⟩
                      rw [hkk]
                      clear hkk HE
                      go_wp2_with fail
                      go_roundg (s.size - (i + 1))
                      case measure => omega
                      case rel => exact ⟨i + 1, by rw [HPS.out]; go_num, by go_num, by omega, rfl, HE1⟩
                    · have hkk : (!keepB s[i]) = true := by simp [hk]
                      have henc : enc1 s[i] = [37, hexU (s[i].toNat / 16), hexU (s[i].toNat % 16)] := by unfold enc1 enc2; rw [if_neg hc2, if_neg hk]
                      rw [henc] at hJ0 hps hacc
                      simp only [List.length_cons, List.length_nil] at hJ0 hps
                      have hJN : (pos1 s i : Int) < (N : Int) := by omega
                      have hJN1 : (pos1 s i : Int) + 1 < (N : Int) := by omega
                      have hJN2 : (pos1 s i : Int) + 2 < (N : Int) := by omega
                      have hJ1 : (0 : Int) ≤ (pos1 s i : Int) + 1 := by omega
                      have hJ2 : (0 : Int) ≤ (pos1 s i : Int) + 2 := by omega
                      have hJz : ((pos1 s i : Int) + 1).toNat = pos1 s i + 1 := by omega
                      have hJz2 : ((pos1 s i : Int) + 2).toNat = pos1 s i + 2 := by omega
                      obtain ⟨v, hv⟩ := HE.out.cell (pos1 s i) (by omega)
                      obtain ⟨v1, hv1⟩ := HE.out.cell (pos1 s i + 1) (by omega)
                      obtain ⟨v2, hv2⟩ := HE.out.cell (pos1 s i + 2) (by omega)
                      have hf := HE.out.free
                      have HPS := Lib.hid hps
                      have HACC := Lib.hid hacc
                      have HLEN : Hid (((s.data.toList.take i).flatMap enc1).length = pos1 s i) := Lib.hid rfl
                      clear hps hacc henc hc2 hc hk
                      generalize pos1 s i = J at *
                      go_wp2_with fail
                      refine (shouldEscape_any s[i] _ (HT.out.below HE.out.below)).mono ?_
                      rintro e w2 ⟨rfl, rfl⟩
                      rw [hkk]
                      clear hkk
                      have x0 : (0 : Int) ≤ (s[i].toNat : Int) / 16 ∧ (s[i].toNat : Int) / 16 < 16 := by have := s[i].toNat_lt; omega
                      have x1 : (0 : Int) ≤ bits .and .u8 (s[i].toNat : Int) 15 ∧ bits .and .u8 (s[i].toNat : Int) 15 < 16 := by rw [and15]; omega
                      go_wp2_with fail
                      go_roundg (s.size - (i + 1))
                      case measure => omega
                      case rel =>
                        refine ⟨i + 1, by rw [HPS.out]; go_num, by go_num, by omega, rfl, Lib.hid ?_⟩
                        rw [HACC.out, hexU_nat _ (by have := s[i].toNat_lt; omega), hexU_nat _ (by omega)]
                        exact HE.out.three HLEN.out hJ0 _ _
                · obtain rfl : i = s.size := by omega
                  have ht := HE.out.text (by show pos1 s s.size = N; exact HTOT.out)
                  have hfl : s.data.toList.take s.size = s.data.toList := List.take_of_length_le (by rw [Array.length_toList]; exact Nat.le_refl _)
                  rw [hfl] at ht
                  have HB3 := Lib.hid HE.out.below
                  clear HE hlt hi
                  go_wp2_with fail
                  go_ret
                  exact ⟨rfl, HB3.out⟩
end Go.Proofs.YtjpcdbopioblaaaGreatDoor
