/- net/url's unescape walked, on what escape made. -/
import Derived.Test.YtjpcdbopioblaaaGreatDoorUriEsc
import Derived.Test.YtjpcdbopioblaaaGreatDoorBuilderL
import Derived.Test.YtjpcdbopioblaaaGreatDoorLook
namespace Go.Proofs.YtjpcdbopioblaaaGreatDoor
open Go.RowKit

theorem ishex_any (k : Nat) (hk : k < 16) (w : World) (hT : TabU w) :
    Calls Tryz.prog 188 #[.int .u8 (hexU k).toNat] w fun e w' => e = .returned (.bool true) ∧ w' = w := by
  have hc := hT (hexU k).toNat (hexU k).toNat_lt
  have hall : ((List.range 16).all fun n => bits .and .u8 (urlTab.getD (hexU n).toNat 0) 128 != 0) = true := by decide +kernel
  have hb : (bits .and .u8 (urlTab.getD (hexU k).toNat 0) 128 != 0) = true := List.all_eq_true.1 hall k (by simpa using hk)
  have hl : ((hexU k).toNat : Int) < 256 := by have := (hexU k).toNat_lt; omega
  generalize urlTab.getD (hexU k).toNat 0 = t at hc hb
  clear hT hall
  go_enter Tryz.func188, Tryz.ntmps188
  go_wp2_with fail
  go_ret
  exact ⟨rfl, rfl⟩

theorem unhex_all : ((List.range 16).all fun n => decide (9 * (((hexU n).toNat : Int) / 64) + ((hexU n).toNat : Int) % 16 = n)) = true := by decide +kernel
theorem unhex_any (k : Nat) (hk : k < 16) (w : World) :
    Calls Tryz.prog 189 #[.int .u8 (hexU k).toNat] w fun e w' => e = .returned (.int .u8 k) ∧ w' = w := by
  have hb := Lib.hid (of_decide_eq_true (List.all_eq_true.1 unhex_all k (by simpa using hk)))
  have hl := (hexU k).toNat_lt
  have h1 : (0 : Int) ≤ ((hexU k).toNat : Int) / 64 := by omega
  have h2 : ((hexU k).toNat : Int) / 64 ≤ 3 := by omega
  clear hl
  generalize ((hexU k).toNat : Int) = c at *
  go_enter Tryz.func189, Tryz.ntmps189
  go_wp2_with fail
  go_ret
  exact ⟨by rw [← hb.out]; rfl, rfl⟩

/-- The text that both steps make of a string. -/
def IsE2 (s src : ByteArray) : Prop := src.data.toList = s.data.toList.flatMap enc2
def pos2 (s : ByteArray) (i : Nat) : Nat := ((s.data.toList.take i).flatMap enc2).length
def esN (s : ByteArray) (i : Nat) : Nat := (s.data.toList.take i).countP fun c => !keepB c
theorem esN_succ {s : ByteArray} {i : Nat} (h : i < s.size) : esN s (i + 1) = esN s i + if !keepB s[i] then 1 else 0 := by
  have e0 : s.data.toList[i]'(by simpa using h) = s[i] := rfl
  unfold esN
  rw [List.take_succ_eq_append_getElem (by simpa using h), e0, List.countP_append]
  simp [List.countP_cons]
theorem esN_le (s : ByteArray) (i : Nat) : esN s i ≤ i := Nat.le_trans List.countP_le_length (List.length_take_le _ _)
theorem pos2_succ {s : ByteArray} {i : Nat} (h : i < s.size) : pos2 s (i + 1) = pos2 s i + (enc2 s[i]).length := by
  have e0 : s.data.toList[i]'(by simpa using h) = s[i] := rfl
  unfold pos2
  rw [List.take_succ_eq_append_getElem (by simpa using h), e0, List.flatMap_append, List.length_append]
  simp
theorem IsE2.size {s src : ByteArray} (h : IsE2 s src) : src.size = pos2 s s.size := by
  have el := congrArg List.length h
  have e2 : src.data.toList.length = src.size := Array.length_toList
  unfold pos2
  rw [List.take_of_length_le (by rw [Array.length_toList]; exact Nat.le_refl _), ← el, e2]
theorem IsE2.at {s src : ByteArray} (h : IsE2 s src) {i : Nat} (hi : i < s.size) (j : Nat) (hj : j < (enc2 s[i]).length) : ∃ hlt : pos2 s i + j < src.size, src[pos2 s i + j] = (enc2 s[i])[j] := by
  have e0 : s.data.toList[i]'(by simpa using hi) = s[i] := rfl
  have e : s.data.toList = s.data.toList.take i ++ s[i] :: s.data.toList.drop (i + 1) := by
    rw [← e0, ← List.drop_eq_getElem_cons, List.take_append_drop]
  have e1 : src.data.toList = (s.data.toList.take i).flatMap enc2 ++ (enc2 s[i] ++ (s.data.toList.drop (i + 1)).flatMap enc2) := by
    unfold IsE2 at h
    rw [h]
    conv => lhs; rw [e]
    simp
  have el := congrArg List.length e1
  have e2 : src.data.toList.length = src.size := Array.length_toList
  rw [e2, List.length_append, List.length_append] at el
  have e3 : ((s.data.toList.take i).flatMap enc2).length = pos2 s i := rfl
  have hlt : pos2 s i + j < src.size := by omega
  refine ⟨hlt, ?_⟩
  have g : src.data.toList[pos2 s i + j]? = some (enc2 s[i])[j] := by
    rw [e1, List.getElem?_append_right (by rw [e3]; omega), e3, Nat.add_sub_cancel_left, List.getElem?_append_left hj, List.getElem?_eq_getElem hj]
  exact (List.getElem?_eq_some_iff.1 g).2
theorem IsE2.same {s src : ByteArray} (h : IsE2 s src) (h0 : esN s s.size = 0) : src = s := by
  have hl : s.data.toList.length = s.size := Array.length_toList
  unfold esN at h0
  rw [List.take_of_length_le (by omega), List.countP_eq_zero] at h0
  have hh : ∀ l : List UInt8, (∀ c ∈ l, enc2 c = [c]) → l.flatMap enc2 = l := fun l => by
    induction l with
    | nil => intro _; rfl
    | cons c l ih => intro h; rw [List.flatMap_cons, h c (by simp), ih fun d hd => h d (by simp [hd])]; rfl
  unfold IsE2 at h
  rw [hh _ fun c hc => by have := h0 c hc; unfold enc2; rw [if_pos (by simpa using this)]] at h
  exact ByteArray.ext (Array.toList_inj.1 h)
theorem pos2_eq (s : ByteArray) : ∀ i, i ≤ s.size → pos2 s i = i + 2 * esN s i
  | 0, _ => by simp [pos2, esN]
  | i + 1, h => by
    have h1 := pos2_eq s i (by omega)
    have hl := (enc_len s[i]).2
    rw [pos2_succ (by omega), h1, esN_succ (by omega), hl]
    by_cases hk : keepB s[i] = true
    · simp [hk]; omega
    · simp [hk]; omega

theorem wrap_small (n : Int) (h : 0 ≤ n ∧ n ≤ 1000000000) : wrap64 n = n := by unfold wrap64; omega
theorem J_wraps (J : Nat) (h : J ≤ 100000000) : IntKind.i64.wrap ((J : Int) + 1) = (J : Int) + 1 ∧ IntKind.i64.wrap ((J : Int) + 2) = (J : Int) + 2 ∧ wrap64 ((J : Int) + 1) = (J : Int) + 1 ∧ wrap64 ((J : Int) + 2) = (J : Int) + 2 :=
  ⟨IntWalk.i64_in _ (by omega), IntWalk.i64_in _ (by omega), wrap_small _ (by omega), wrap_small _ (by omega)⟩
theorem or_hex_all : ((List.range 256).all fun n => decide (bits .or .u8 (IntKind.u8.wrap ((n : Int) / 16 * 16)) ((n : Int) % 16) = n)) = true := by decide +kernel
theorem or_hex (c : UInt8) : bits .or .u8 (IntKind.u8.wrap ((c.toNat : Int) / 16 * 16)) ((c.toNat : Int) % 16) = c.toNat := of_decide_eq_true (List.all_eq_true.1 or_hex_all c.toNat (by simpa using c.toNat_lt))
theorem builder_drew {B b : Nat} {bs : List Value} {w : World} (h : Lib.IsBuilderF 224 5 B b bs w) : Lib.IsBuilderF 224 5 B b bs w.drew := h
theorem bytes_succ {s : ByteArray} {i : Nat} (h : i < s.size) : Lib.byteCells (s.data.toList.take (i + 1)) = Lib.byteCells (s.data.toList.take i) ++ [.int .u8 s[i].toNat] := by
  have e0 : s.data.toList[i]'(by simpa using h) = s[i] := rfl
  rw [List.take_succ_eq_append_getElem (by simpa using h), e0]
  simp [Lib.byteCells]

set_option maxRecDepth 100000 in
set_option maxHeartbeats 3200000 in
theorem unescape_any (s src : ByteArray) (w : World) (hE : IsE2 s src) (hT : TabU w) (hs : s.size ≤ 1000000) :
    Calls Tryz.prog 167 #[.string src, .int .u8 32] w fun e w' => e = .returned (.tuple #[.string s, .nilIface]) ∧ Below w.heap.size w w' := by
  have HE := Lib.hid hE
  have HT := Lib.hid hT
  have hsrc : src.size ≤ 3 * s.size := by rw [hE.size, pos2_eq s s.size (Nat.le_refl _)]; have := esN_le s s.size; omega
  clear hE hT
  go_enter Tryz.func167, Tryz.ntmps167
  go_wp2_with fail
  go_loopg [0, 6, 7, 8] (s.size) (fun gk s0 s6 s7 s8 wr => ∃ i : Nat, s0 = .string src ∧ s6 = .int .i64 (esN s i) ∧ s7 = .bool false ∧ s8 = .int .i64 (pos2 s i) ∧ i ≤ s.size ∧ gk = s.size - i ∧ wr = w)
  case atStart => exact ⟨0, rfl, by simp [esN], rfl, by simp [pos2], Nat.zero_le _, rfl, rfl⟩
  case round =>
    obtain ⟨i, rfl, rfl, rfl, rfl, hi, rfl, rfl⟩ := hrel
    have hes := esN_le s i
    by_cases hlt : i < s.size
    · have hp := pos2_succ hlt
      have hn := esN_succ hlt
      by_cases hk : keepB s[i] = true
      · have henc : enc2 s[i] = [s[i]] := by unfold enc2; rw [if_pos hk]
        obtain ⟨x0, y0⟩ := HE.out.at hlt 0 (by rw [henc]; simp)
        simp only [Nat.add_zero, henc] at x0 y0
        have z0 : src[pos2 s i]'(by omega) = s[i] := y0
        have z1 : (src[pos2 s i]'(by omega)).toNat = s[i].toNat := by rw [z0]
        obtain ⟨n1, n2, n3⟩ := keepB_ne hk
        have q1 : ((s[i].toNat : Int) == 37) = false := by
          have : s[i].toNat ≠ 37 := fun e => n1 (UInt8.toNat_inj.1 e)
          simp; omega
        have q2 : ((s[i].toNat : Int) == 43) = false := by
          have : s[i].toNat ≠ 43 := fun e => n2 (UInt8.toNat_inj.1 e)
          simp; omega
        rw [henc] at hp
        have HP := Lib.hid (And.intro hp (show esN s (i + 1) = esN s i by rw [hn, if_neg (by simp [hk])]; omega))
        have hj : (pos2 s i : Int) < (src.size : Int) := by omega
        clear henc y0 z0 n1 n2 n3 hp hn hk
        generalize pos2 s i = J at *
        go_wp2_with fail
        go_roundg (s.size - (i + 1))
        case measure => omega
        case rel => exact ⟨i + 1, rfl, by rw [HP.out.2], rfl, by rw [HP.out.1]; go_num, by omega, rfl, rfl⟩
      · have henc : enc2 s[i] = [37, hexU (s[i].toNat / 16), hexU (s[i].toNat % 16)] := by unfold enc2; rw [if_neg hk]
        obtain ⟨x0, y0⟩ := HE.out.at hlt 0 (by rw [henc]; simp)
        obtain ⟨x1, y1⟩ := HE.out.at hlt 1 (by rw [henc]; simp)
        obtain ⟨x2, y2⟩ := HE.out.at hlt 2 (by rw [henc]; simp)
        simp only [Nat.add_zero, henc] at x0 y0 y1 y2
        have z0 : (src[pos2 s i]'(by omega)).toNat = 37 := by rw [show src[pos2 s i]'(by omega) = 37 from y0]; rfl
        have z1 : (src[pos2 s i + 1]'(by omega)) = hexU (s[i].toNat / 16) := y1
        have z2 : (src[pos2 s i + 2]'(by omega)) = hexU (s[i].toNat % 16) := y2
        rw [henc] at hp
        have HP := Lib.hid (And.intro hp (show esN s (i + 1) = esN s i + 1 by rw [hn, if_pos (by simp [hk])]))
        have hj : (pos2 s i : Int) < (src.size : Int) := by omega
        have hj1 : (pos2 s i : Int) + 1 < (src.size : Int) := by omega
        have hj2 : (pos2 s i : Int) + 2 < (src.size : Int) := by omega
        have g1 : (0 : Int) ≤ (pos2 s i : Int) + 1 := by omega
        have g2 : (0 : Int) ≤ (pos2 s i : Int) + 2 := by omega
        have t1 : ((pos2 s i : Int) + 1).toNat = pos2 s i + 1 := by omega
        have t2 : ((pos2 s i : Int) + 2).toNat = pos2 s i + 2 := by omega
        have hj3 : ¬ ((src.size : Int) ≤ (pos2 s i : Int) + 2) := by omega
        have HI := Lib.hid fun k hk wx hT => ishex_any k hk wx hT
        have hlo : s[i].toNat / 16 < 16 := by have := s[i].toNat_lt; omega
        clear henc y0 y1 y2 hp hn hk
        generalize pos2 s i = J at *
        go_wp2_with (go_at_call 188; refine (HI.out _ (by first | exact hlo | exact Nat.mod_lt _ (by decide)) _ HT.out).mono ?_; rintro e w2 ⟨rfl, rfl⟩)
        go_roundg (s.size - (i + 1))
        case measure => omega
        case rel => exact ⟨i + 1, rfl, by rw [HP.out.2]; go_num, rfl, by rw [HP.out.1]; go_num, by omega, rfl, rfl⟩
    · obtain rfl : i = s.size := by omega
      have hsz := HE.out.size
      have hp2 := pos2_eq s s.size (Nat.le_refl _)
      have hj : ¬ ((pos2 s s.size : Int) < (src.size : Int)) := by omega
      by_cases h0 : esN s s.size = 0
      · have HS := Lib.hid (HE.out.same h0)
        rw [h0]
        clear h0 hes
        go_wp2_with fail
        go_ret2
        exact ⟨by rw [← HS.out]; rfl, Below.refl _ _⟩
      · have e1 : ((esN s s.size : Int) == 0) = false := by simp; omega
        have hsub : (src.size : Int) - 2 * (esN s s.size : Int) = (s.size : Int) := by omega
        have hn2 : (esN s s.size : Int) ≤ 1000000 := by omega
        have hn3 : (src.size : Int) ≤ 3000000 := by omega
        have HSZ := Lib.hid hsz
        clear h0 hsz hp2 hlt hi
        go_wp2_with fail
        refine (Go.Proofs.Tryz.Builder_Grow_fresh wr.heap.size wr.heap.size s.size _ (Nat.le_refl _) (heap_alloc_new wr _) (by simp) (by omega)).mono ?_
        rintro e w2 ⟨rfl, hb2, hB2⟩
        have HB2 : Hid (Lib.IsBuilderF 224 5 wr.heap.size wr.heap.size (Lib.byteCells []) w2) := Lib.hid (.of (.inr hb2))
        have HW2 : Hid (Below wr.heap.size wr w2) := Lib.hid (((Below.refl _ _).alloc (Nat.le_refl _) _).trans hB2)
        clear hb2 hB2
        go_wp2_with fail
        have HSZ2 : Hid (wr.heap.size ≤ w2.heap.size) := Lib.hid (by have := HW2.out.size; omega)
        generalize hBe : wr.heap.size = B at *
        have HBE := Lib.hid hBe
        clear hBe
        go_loopg [12] (s.size) (fun gk s12 wx => ∃ i : Nat, s12 = .int .i64 (pos2 s i) ∧ i ≤ s.size ∧ gk = s.size - i ∧ Hid (Lib.IsBuilderF 224 5 B B (Lib.byteCells (s.data.toList.take i)) wx) ∧ Hid (Below B wr wx) ∧ Hid (B ≤ wx.heap.size))
        case atStart => exact ⟨0, by simp [pos2], Nat.zero_le _, rfl, HB2, HW2, HSZ2⟩
        case round =>
          obtain ⟨i, rfl, hi, rfl, HB, HW, HZ⟩ := hrel
          clear HB2 HW2 HSZ2
          by_cases hlt : i < s.size
          · have hp := pos2_succ hlt
            have HBC := Lib.hid (bytes_succ hlt)
            have HLEN : Hid ((Lib.byteCells (s.data.toList.take i)).length ≤ 1000000) := Lib.hid (by rw [Lib.byteCells_length, List.length_take]; omega)
            by_cases hk : keepB s[i] = true
            · have henc : enc2 s[i] = [s[i]] := by unfold enc2; rw [if_pos hk]
              obtain ⟨x0, y0⟩ := HE.out.at hlt 0 (by rw [henc]; simp)
              simp only [Nat.add_zero, henc] at x0 y0
              have z0 : src[pos2 s i]'(by omega) = s[i] := y0
              have z1 : (src[pos2 s i]'(by omega)).toNat = s[i].toNat := by rw [z0]
              obtain ⟨n1, n2, n3⟩ := keepB_ne hk
              have q1 : ((s[i].toNat : Int) == 37) = false := by
                have : s[i].toNat ≠ 37 := fun e => n1 (UInt8.toNat_inj.1 e)
                simp; omega
              have q2 : ((s[i].toNat : Int) == 43) = false := by
                have : s[i].toNat ≠ 43 := fun e => n2 (UInt8.toNat_inj.1 e)
                simp; omega
              rw [henc] at hp
              have HP := Lib.hid hp
              have hj : (pos2 s i : Int) < (src.size : Int) := by omega
              clear henc y0 z0 n1 n2 n3 hp hk
              generalize pos2 s i = J at *
              go_wp2_with fail
              refine (Go.Proofs.Tryz.bld_WriteByte_k B B (Lib.byteCells (s.data.toList.take i)) s[i].toNat _ HB.out (by have := HLEN.out; omega) HZ.out).mono ?_
              rintro e w3 ⟨rfl, h1, h2, h3⟩
              rw [← HBC.out] at h1
              have HB3 : Hid (Lib.IsBuilderF 224 5 B B (Lib.byteCells (s.data.toList.take (i + 1))) w3) := Lib.hid (.inr h1)
              have HW3 := Lib.hid (HW.out.trans h2)
              have HZ3 := Lib.hid (Nat.le_trans HZ.out h2.size)
              clear h1 h2 h3 HB HW HZ
              go_wp2_with fail
              go_roundg (s.size - (i + 1))
              case measure => omega
              case rel => exact ⟨i + 1, by rw [HP.out]; go_num, by omega, rfl, HB3, HW3, HZ3⟩
            · have henc : enc2 s[i] = [37, hexU (s[i].toNat / 16), hexU (s[i].toNat % 16)] := by unfold enc2; rw [if_neg hk]
              obtain ⟨x0, y0⟩ := HE.out.at hlt 0 (by rw [henc]; simp)
              obtain ⟨x1, y1⟩ := HE.out.at hlt 1 (by rw [henc]; simp)
              obtain ⟨x2, y2⟩ := HE.out.at hlt 2 (by rw [henc]; simp)
              simp only [Nat.add_zero, henc] at x0 y0 y1 y2
              have z0 : (src[pos2 s i]'(by omega)).toNat = 37 := by rw [show src[pos2 s i]'(by omega) = 37 from y0]; rfl
              have z1 : (src[pos2 s i + 1]'(by omega)) = hexU (s[i].toNat / 16) := y1
              have z2 : (src[pos2 s i + 2]'(by omega)) = hexU (s[i].toNat % 16) := y2
              rw [henc] at hp
              have HP := Lib.hid hp
              have hj : (pos2 s i : Int) < (src.size : Int) := by omega
              have hj1 : (pos2 s i : Int) + 1 < (src.size : Int) := by omega
              have hj2 : (pos2 s i : Int) + 2 < (src.size : Int) := by omega
              have g1 : (0 : Int) ≤ (pos2 s i : Int) + 1 := by omega
              have g2 : (0 : Int) ≤ (pos2 s i : Int) + 2 := by omega
              have t1 : ((pos2 s i : Int) + 1).toNat = pos2 s i + 1 := by omega
              have t2 : ((pos2 s i : Int) + 2).toNat = pos2 s i + 2 := by omega
              have HI := Lib.hid fun k hk wx => unhex_any k hk wx
              have hlo : s[i].toNat / 16 < 16 := by have := s[i].toNat_lt; omega
              clear henc y0 y1 y2 hp hk
              generalize pos2 s i = J at *
              go_wp2_with fail
              have hj1 : (J : Int) + 1 < (src.size : Int) := by omega
              have hj2 : (J : Int) + 2 < (src.size : Int) := by omega
              have g1 : (0 : Int) ≤ (J : Int) + 1 := by omega
              have g2 : (0 : Int) ≤ (J : Int) + 2 := by omega
              have t1 : ((J : Int) + 1).toNat = J + 1 := by omega
              have t2 : ((J : Int) + 2).toNat = J + 2 := by omega
              obtain ⟨hw1, hw2, hv1, hv2⟩ := J_wraps J (by omega)
              have hor := or_hex s[i]
              go_region_with (first
                | (go_at_call 189; refine (HI.out _ (by first | exact hlo | exact Nat.mod_lt _ (by decide)) _).mono ?_; rintro e w2 ⟨rfl, rfl⟩)
                | (go_at_call 191; refine (Go.Proofs.Tryz.bld_WriteByte_k B B (Lib.byteCells (s.data.toList.take i)) s[i].toNat _ (builder_drew HB.out) (Nat.le_trans (Nat.succ_le_succ HLEN.out) (by decide)) HZ.out).mono ?_; rintro e w3 ⟨rfl, h1, h2, h3⟩; rw [← HBC.out] at h1; have HB3 : Hid (Lib.IsBuilderF 224 5 B B (Lib.byteCells (s.data.toList.take (i + 1))) w3) := Lib.hid (.inr h1); have HW3 := Lib.hid (HW.out.drew.trans h2); have HZ3 := Lib.hid (Nat.le_trans HZ.out h2.size); clear h1 h2 h3))
              all_goals (
                clear HB HW HZ hw1 hw2 hv1 hv2 hor
                go_wp2_with fail
                go_roundg (s.size - (i + 1))
                case measure => omega
                case rel => exact ⟨i + 1, by rw [HP.out]; go_num, by omega, rfl, HB3, HW3, HZ3⟩)
          · obtain rfl : i = s.size := by omega
            have hj : ¬ ((pos2 s s.size : Int) < (src.size : Int)) := by have := HSZ.out; omega
            have hall : s.data.toList.take s.size = s.data.toList := List.take_of_length_le (by rw [Array.length_toList]; exact Nat.le_refl _)
            rw [hall] at HB
            clear hlt hi hall
            go_wp2_with fail
            refine (Go.Proofs.Tryz.bld_String_k B B _ _ HB.out HZ.out).mono ?_
            rintro e w3 ⟨rfl, h1, h2, h3⟩
            have HW3 := Lib.hid (HW.out.trans h2)
            clear h1 h2 h3 HB HW HZ
            go_wp2_with fail
            go_ret2
            exact ⟨rfl, by rw [HBE.out]; exact HW3.out⟩
end Go.Proofs.YtjpcdbopioblaaaGreatDoor
