/- The JSON encoder's encodeString walked, for whatever writer (printed by mkencw.py out of EncStr.tpl). -/
import Derived.Test.YtjpcdbopioblaaaGreatDoorMh1
import Derived.Test.YtjpcdbopioblaaaGreatDoorMh3
import Derived.StillTailTactics
import Derived.Deep.QuietTactic
namespace Go.Proofs.YtjpcdbopioblaaaGreatDoor
open Go.RowKit

/-- What a write leaves. -/
def WrotePost (K : Wr) (B b eb : Nat) (l : List UInt8) (w : World) (w' : World) : Prop := EncS K B b eb l w' ∧ Below B w w' ∧ Lib.OthersKept 5 (some b) w w'
theorem write_byte {K : Wr} (hK : K.Bytes) (B b eb : Nat) (l : List UInt8) (c : UInt8) (w : World) (h : EncS K B b eb l w) (hl : l.length + 1 ≤ 140737488355328) :
    Calls Tryz.prog K.fb #[.pointer (some ⟨b, 0, none⟩), .int .u8 c.toNat] w fun e w' => e = .returned .nilIface ∧ WrotePost K B b eb (l ++ [c]) w w' :=
  (hK.write B b l c w h.bld hl h.size).mono fun _ _ ⟨he, hw⟩ => ⟨he, h.wrote hw, hw.2.1, hw.2.2⟩
theorem write_string {K : Wr} (hK : K.Strs) (B b eb : Nat) (l : List UInt8) (s : ByteArray) (w : World) (h : EncS K B b eb l w) (hl : l.length + s.size ≤ 140737488355328) :
    Calls Tryz.prog K.fs #[.pointer (some ⟨b, 0, none⟩), .string s] w fun e w' => e = .returned (.tuple #[.int .i64 s.size, .nilIface]) ∧ WrotePost K B b eb (l ++ s.data.toList) w w' :=
  (hK.write B b l s w h.bld hl h.size).mono fun _ _ ⟨he, hw⟩ => ⟨he, h.wrote hw, hw.2.1, hw.2.2⟩

/-- In the loop: written is what stands before st; from st to i all stands as it is. -/
structure EncL (K : Wr) (s : ByteArray) (B b eb : Nat) (l0 : List UInt8) (w : World) (st i : Nat) (wr : World) : Prop where
  enc : EncS K B b eb (l0 ++ 34 :: (s.data.toList.take st).flatMap encB) wr
  plain : ∀ c ∈ (s.data.toList.take i).drop st, plainB c
  valid : Lib.validD (s.data.toList.drop i) = true
  below : Below B w wr
  kept : Lib.OthersKept 5 (some b) w wr

theorem EncL.start {K : Wr} {s : ByteArray} {B b eb : Nat} {l0 : List UInt8} {w w1 : World} (hv : Lib.validD s.data.toList = true) (h : WrotePost K B b eb (l0 ++ [34]) w w1) : EncL K s B b eb l0 w 0 0 w1 :=
  ⟨by simpa using h.1, by simp, by simpa using hv, h.2.1, h.2.2⟩
theorem EncL.sub {K : Wr} {s : ByteArray} {B b eb : Nat} {l0 : List UInt8} {w wr : World} {st i : Nat} (h : EncL K s B b eb l0 w st i wr) (hst : st ≤ i) : ((s.data.toList.take st).flatMap encB) ++ ((s.data.toList.take i).drop st) = (s.data.toList.take i).flatMap encB := by
  have e : s.data.toList.take i = s.data.toList.take st ++ (s.data.toList.take i).drop st := by
    have := List.take_append_drop st (s.data.toList.take i)
    rw [List.take_take, Nat.min_eq_left hst] at this
    exact this.symm
  conv => rhs; rw [e, List.flatMap_append, enc_plain h.plain]
theorem EncL.len {s : ByteArray} (i : Nat) : ((s.data.toList.take i).flatMap encB).length ≤ 6 * i := by
  have h : ∀ l : List UInt8, (l.flatMap encB).length ≤ 6 * l.length := fun l => by
    induction l with
    | nil => simp
    | cons c l ih =>
      have h1 : (encB c).length ≤ 6 := by unfold encB; repeat' split
                                          all_goals simp
      rw [List.flatMap_cons, List.length_append, List.length_cons]; omega
  have := h (s.data.toList.take i)
  have h2 : (s.data.toList.take i).length ≤ i := List.length_take_le _ _
  omega
theorem EncL.step {K : Wr} {s : ByteArray} {B b eb : Nat} {l0 : List UInt8} {w wr : World} {st i : Nat} (h : EncL K s B b eb l0 w st i wr) (hst : st ≤ i) (hi : i < s.size) (hp : plainB s[i]) (hc : s[i].toNat < 128) : EncL K s B b eb l0 w st (i + 1) wr := by
  have hi' : i < s.data.toList.length := by simpa using hi
  have e : s.data.toList[i]'hi' = s[i] := rfl
  refine ⟨h.enc, fun c hc => ?_, ?_, h.below, h.kept⟩
  · rw [List.take_succ_eq_append_getElem hi', List.drop_append_of_le_length (by simp; omega)] at hc
    rcases List.mem_append.1 hc with hc | hc
    · exact h.plain c hc
    · simp at hc; rw [hc]; exact hp
  · have hv := h.valid
    rw [List.drop_eq_getElem_cons hi', e, Lib.validD_cons _ _ hc] at hv
    exact hv
theorem EncL.jump {K : Wr} {s : ByteArray} {B b eb : Nat} {l0 : List UInt8} {w wr wr' : World} {st i k : Nat} (hKp : K.Keeps) (h : EncL K s B b eb l0 w st i wr) (hst : st ≤ i) (hk : ∀ c ∈ (s.data.toList.drop i).take k, 128 ≤ c.toNat) (hik : i + k ≤ s.size) (hv : Lib.validD ((s.data.toList.drop i).drop k) = true) (hb : Below wr.heap.size wr wr') : EncL K s B b eb l0 w st (i + k) wr' := by
  have hB := h.enc.size
  refine ⟨h.enc.below hKp hb, fun c hc => ?_, by rw [List.drop_drop] at hv; exact hv, h.below.trans (hb.mono hB), fun g o h1 h2 h3 => ?_⟩
  · have e : (s.data.toList.take (i + k)).drop st = (s.data.toList.take i).drop st ++ (s.data.toList.drop i).take k := by
      rw [List.take_add, List.drop_append_of_le_length (by simp; omega)]
    rw [e] at hc
    rcases List.mem_append.1 hc with hc | hc
    · exact h.plain c hc
    · have := hk c hc; exact ⟨by omega, by omega, by omega, by omega⟩
  · have h4 := h.kept g o h1 h2 h3
    exact (hb.block g (Array.getElem?_eq_some_iff.1 h4).1).trans h4
theorem EncL.esc {K : Wr} {s : ByteArray} {B b eb : Nat} {l0 : List UInt8} {w wr w' : World} {st i : Nat} (h : EncL K s B b eb l0 w st i wr) (hi : i < s.size) (hc : s[i].toNat < 128) (he : EncS K B b eb (l0 ++ 34 :: (s.data.toList.take i).flatMap encB ++ encB s[i]) w') (hb : Below B wr w') (hk : Lib.OthersKept 5 (some b) wr w') : EncL K s B b eb l0 w (i + 1) (i + 1) w' := by
  have hi' : i < s.data.toList.length := by simpa using hi
  have e : s.data.toList[i]'hi' = s[i] := rfl
  refine ⟨?_, by simp, ?_, h.below.trans hb, h.kept.trans hk⟩
  · rw [List.take_succ_eq_append_getElem hi', List.flatMap_append, e]
    simpa using he
  · have hv := h.valid
    rw [List.drop_eq_getElem_cons hi', e, Lib.validD_cons _ _ hc] at hv
    exact hv
theorem extract_list (s : ByteArray) (a b : Nat) : (s.extract a b).data.toList = (s.data.toList.take b).drop a := by
  rw [ByteArray.data_extract, Array.toList_extract, List.extract_eq_drop_take', List.drop_take]

theorem EncL.lists {K : Wr} {s : ByteArray} {B b eb : Nat} {l0 : List UInt8} {w wr : World} {st i : Nat} (h : EncL K s B b eb l0 w st i wr) (hst : st ≤ i) : (l0 ++ 34 :: (s.data.toList.take st).flatMap encB) ++ (s.extract st i).data.toList = l0 ++ 34 :: (s.data.toList.take i).flatMap encB := by
  rw [extract_list, List.append_assoc, List.cons_append, h.sub hst]
theorem EncL.bound {K : Wr} {s : ByteArray} {B b eb : Nat} {l0 : List UInt8} {w wr : World} {st i : Nat} (h : EncL K s B b eb l0 w st i wr) (hst : st ≤ i) : (l0 ++ 34 :: (s.data.toList.take st).flatMap encB).length + (s.extract st i).size ≤ l0.length + 1 + 6 * i := by
  have e := congrArg List.length (h.lists hst)
  rw [List.length_append] at e
  have e2 : (s.extract st i).data.toList.length = (s.extract st i).size := Array.length_toList
  have e3 := EncL.len (s := s) i
  rw [e2] at e
  rw [e, List.length_append, List.length_cons]
  omega
theorem EncL.escF {K : Wr} {s : ByteArray} {B b eb : Nat} {l0 bs : List UInt8} {w wr w1 w' : World} {st i : Nat} (h : EncL K s B b eb l0 w st i wr) (hst : st ≤ i) (hi : i < s.size) (hc : s[i].toNat < 128) (hbs : encB s[i] = bs) (h1 : WrotePost K B b eb ((l0 ++ 34 :: (s.data.toList.take st).flatMap encB) ++ (s.extract st i).data.toList) wr.drew w1)
    (h2 : WrotePost K B b eb (((l0 ++ 34 :: (s.data.toList.take st).flatMap encB) ++ (s.extract st i).data.toList) ++ bs) w1 w') : EncL K s B b eb l0 w (i + 1) (i + 1) w' := by
  have h3 := h2.1
  rw [h.lists hst, ← hbs] at h3
  exact h.esc hi hc h3 ((Below.refl B wr).drew.trans (h1.2.1.trans h2.2.1)) (h1.2.2.trans h2.2.2)
theorem EncL.escN {K : Wr} {s : ByteArray} {B b eb : Nat} {l0 bs : List UInt8} {w wr w' : World} {i : Nat} (h : EncL K s B b eb l0 w i i wr) (hi : i < s.size) (hc : s[i].toNat < 128) (hbs : encB s[i] = bs)
    (h2 : WrotePost K B b eb ((l0 ++ 34 :: (s.data.toList.take i).flatMap encB) ++ bs) wr w') : EncL K s B b eb l0 w (i + 1) (i + 1) w' := by
  have h3 := h2.1
  rw [← hbs] at h3
  exact h.esc hi hc h3 h2.2.1 h2.2.2
theorem encB_at (c : UInt8) (n : UInt8) (bs : List UInt8) (h : c.toNat = n.toNat) (hn : encB n = bs) : encB c = bs := by
  have : c = n := UInt8.toNat_inj.1 h
  rw [this, hn]
theorem WrotePost.andThen {K : Wr} {B b eb : Nat} {l l' : List UInt8} {w w1 w2 : World} (h1 : WrotePost K B b eb l w w1) (h2 : WrotePost K B b eb l' w1 w2) : WrotePost K B b eb l' w w2 := ⟨h2.1, h1.2.1.trans h2.2.1, h1.2.2.trans h2.2.2⟩

theorem WrotePost.ctl {K : Wr} {B b eb : Nat} {l : List UInt8} {x y : UInt8} {wr w3 w4 w5 : World} (h3 : WrotePost K B b eb (l ++ [92, 117, 48, 48]) wr w3) (h4 : WrotePost K B b eb ((l ++ [92, 117, 48, 48]) ++ [x]) w3.drew w4)
    (h5 : WrotePost K B b eb (((l ++ [92, 117, 48, 48]) ++ [x]) ++ [y]) w4.drew w5) : WrotePost K B b eb (l ++ ([92, 117, 48, 48] ++ [x] ++ [y])) wr w5 := by
  have e : l ++ ([92, 117, 48, 48] ++ [x] ++ [y]) = ((l ++ [92, 117, 48, 48]) ++ [x]) ++ [y] := by simp only [List.append_assoc]
  rw [e]
  exact ⟨h5.1, h3.2.1.trans ((Below.refl B w3).drew.trans (h4.2.1.trans ((Below.refl B w4).drew.trans h5.2.1))), h3.2.2.trans (h4.2.2.trans h5.2.2)⟩
def EncPostO (K : Wr) (B b eb : Nat) (l : List UInt8) (w : World) (e : Ending) (w' : World) : Prop := e = .returned (.tuple #[]) ∧ EncS K B b eb l w' ∧ Below B w w' ∧ Lib.OthersKept 5 (some b) w w'
theorem EncL.all {s : ByteArray} : s.data.toList.take s.size = s.data.toList := List.take_of_length_le (by rw [Array.length_toList]; exact Nat.le_refl _)
theorem EncL.fin {K : Wr} {s : ByteArray} {B b eb : Nat} {l0 : List UInt8} {w wr w2 w3 : World} {st : Nat} (h : EncL K s B b eb l0 w st s.size wr) (hst : st ≤ s.size) (h2 : WrotePost K B b eb ((l0 ++ 34 :: (s.data.toList.take st).flatMap encB) ++ (s.extract st s.size).data.toList) wr.drew w2)
    (h3 : WrotePost K B b eb (((l0 ++ 34 :: (s.data.toList.take st).flatMap encB) ++ (s.extract st s.size).data.toList) ++ [34]) w2 w3) : EncS K B b eb (l0 ++ 34 :: s.data.toList.flatMap encB ++ [34]) w3 ∧ Below B w w3 ∧ Lib.OthersKept 5 (some b) w w3 := by
  have h4 := h3.1
  rw [h.lists hst, EncL.all] at h4
  exact ⟨h4, h.below.trans ((Below.refl B wr).drew.trans (h2.2.1.trans h3.2.1)), h.kept.trans (h2.2.2.trans h3.2.2)⟩
theorem EncL.finN {K : Wr} {s : ByteArray} {B b eb : Nat} {l0 : List UInt8} {w wr w3 : World} (h : EncL K s B b eb l0 w s.size s.size wr)
    (h3 : WrotePost K B b eb ((l0 ++ 34 :: (s.data.toList.take s.size).flatMap encB) ++ [34]) wr w3) : EncS K B b eb (l0 ++ 34 :: s.data.toList.flatMap encB ++ [34]) w3 ∧ Below B w w3 ∧ Lib.OthersKept 5 (some b) w w3 := by
  have h4 := h3.1
  rw [EncL.all] at h4
  exact ⟨h4, h.below.trans h3.2.1, h.kept.trans h3.2.2⟩

set_option maxRecDepth 100000 in
set_option maxHeartbeats 6400000 in
theorem encodeString_o {K : Wr} (hKp : K.Keeps) (hKb : K.Bytes) (hKs : K.Strs) (s : ByteArray) (B b eb : Nat) (l0 : List UInt8) (w : World) (hv : Lib.validD s.data.toList = true) (hS : EncS K B b eb l0 w) (hT : ∀ W, Below B w W → Tabs W) (hlen : l0.length + 6 * s.size + 2 ≤ 140737488355328) :
    Calls Tryz.prog 131 #[.pointer (some ⟨eb, 0, none⟩), .string s] w (EncPostO K B b eb (l0 ++ 34 :: s.data.toList.flatMap encB ++ [34]) w) := by
  have HS := Lib.hid hS
  have HT := Lib.hid hT
  have HV := Lib.hid hv
  have HL := Lib.hid hlen
  have hc0 := hS.iface
  have hsz : s.size ≤ 140737488355328 := by omega
  clear hS hT hv hlen
  have hmb := hKb.meth
  have henb := hKb.enter
  have hms := hKs.meth
  have hens := hKs.enter
  unfold EncPostO
  go_enter Tryz.func131, Tryz.ntmps131
  go_wp2_with fail
  refine (write_byte hKb B b eb l0 34 _ HS.out (by have := HL.out; omega)).mono ?_
  rintro e w1 ⟨rfl, hw1⟩
  have H1 := Lib.hid (EncL.start HV.out hw1)
  clear hw1 hc0
  go_wp2_with fail
  go_loopg [4, 5] (s.size) (fun gk s4 s5 wr => ∃ st i : Nat, s4 = .int .i64 st ∧ s5 = .int .i64 i ∧ st ≤ i ∧ i ≤ s.size ∧ gk = s.size - i ∧ Hid (EncL K s B b eb l0 w st i wr))
  case atStart => exact ⟨0, 0, rfl, rfl, Nat.le_refl _, Nat.zero_le _, rfl, H1⟩
  case round =>
    obtain ⟨st, i, rfl, rfl, hsi, hi, rfl, HR⟩ := hrel
    have c0 := HR.out.enc.iface
    by_cases hlt : i < s.size
    · have hj1 : (i : Int) < (s.size : Int) := by omega
      have hlen := EncL.len (s := s) i
      have hlen2 := EncL.len (s := s) st
      have HLN := Lib.hid (And.intro hlen hlen2)
      clear hlen hlen2 hi
      by_cases h128 : s[i].toNat < 128
      · by_cases hp : plainB s[i]
        · as_aux_lemma =>
          obtain ⟨p1, p2, p3, p4⟩ := hp
          have q0 : (s[i].toNat : Int) < 128 := by omega
          have q1 : (32 : Int) ≤ (s[i].toNat : Int) := by omega
          have q2 : (s[i].toNat : Int) ≤ 126 := by omega
          have q3 : ((s[i].toNat : Int) == 34) = false := by simp; omega
          have q3' : ((s[i].toNat : Int) != 34) = true := by simp; omega
          have q4 : ((s[i].toNat : Int) == 92) = false := by simp; omega
          have q4' : ((s[i].toNat : Int) != 92) = true := by simp; omega
          have HP := Lib.hid (show plainB s[i] from ⟨p1, p2, p3, p4⟩)
          clear p1 p2 p3 p4
          go_wp2_with fail
          go_roundg (s.size - (i + 1))
          case measure => omega
          case rel => exact ⟨st, i + 1, rfl, by go_num, by omega, by omega, rfl, Lib.hid (HR.out.step hsi hlt HP.out h128)⟩
        · by_cases hV : s[i].toNat = 34
          · have q0 : (s[i].toNat : Int) = 34 := by omega
            have HF := Lib.hid (And.intro hsi (And.intro h128 (encB_at s[i] 34 [92,34] hV (by decide))))
            clear hV
            by_cases hst : st < i
            · as_aux_lemma =>
              have hq := hst
              have hst' : (st : Int) < (i : Int) := by omega
              have hst0 : (0 : Int) ≤ (st : Int) := by omega
              have hst2 : (st : Int) ≤ (i : Int) := by omega
              have hst3 : (i : Int) ≤ (s.size : Int) := by omega
              clear hsi hst hp h128
              go_wp2_with fail
              refine wp_region_still_tail 10 (by kernel_rfl) (by kernel_rfl) ?_
              simp only [List.take_succ_cons, List.take_zero, List.drop_succ_cons, List.drop_zero]
              iterate 10 with_reducible still_step
              with_reducible refine wpStill_nil ?_
              change wpList _ _ _ _ _ (World.drew wr)
              go_wp2_with fail
              refine (write_string hKs B b eb _ (s.extract st i) _ (HR.out.enc.drew hKp) (by have h1 := HR.out.bound HF.out.1; have h2 := HL.out; omega)).mono ?_
              rintro e w2 ⟨rfl, hw2⟩
              have HW2 := Lib.hid hw2
              have c2 := hw2.1.iface
              clear hw2 c0
              clear hq
              go_wp2_with fail
              refine (write_string hKs B b eb _ ⟨#[92,34]⟩ _ HW2.out.1 (by have h1 := HR.out.bound HF.out.1; have h2 := HL.out; rw [List.length_append, Array.length_toList]; show _ + _ + 2 ≤ _; exact Nat.le_trans (Nat.add_le_add_right h1 2) (by omega))).mono ?_
              rintro e w3 ⟨rfl, hw3⟩
              have HW3 := Lib.hid hw3
              clear hw3 c2
              go_wp2_with fail
              go_roundg (s.size - (i + 1))
              case measure => omega
              case rel => exact ⟨i + 1, i + 1, by go_num, by go_num, Nat.le_refl _, by omega, rfl, Lib.hid (HR.out.escF HF.out.1 hlt HF.out.2.1 HF.out.2.2 HW2.out HW3.out)⟩
            · as_aux_lemma =>
              obtain rfl : st = i := by omega
              clear hsi hst hp h128
              go_wp2_with fail
              refine (write_string hKs B b eb _ ⟨#[92,34]⟩ _ HR.out.enc (by have h1 := HLN.out.1; have h2 := HL.out; rw [List.length_append, List.length_cons]; show _ + _ + 2 ≤ _; omega)).mono ?_
              rintro e w3 ⟨rfl, hw3⟩
              have HW3 := Lib.hid hw3
              clear hw3 c0
              go_wp2_with fail
              go_roundg (s.size - (st + 1))
              case measure => omega
              case rel => exact ⟨st + 1, st + 1, by go_num, by go_num, Nat.le_refl _, by omega, rfl, Lib.hid (HR.out.escN hlt HF.out.2.1 HF.out.2.2 HW3.out)⟩
          · by_cases hV : s[i].toNat = 92
            · have q0 : (s[i].toNat : Int) = 92 := by omega
              have HF := Lib.hid (And.intro hsi (And.intro h128 (encB_at s[i] 92 [92,92] hV (by decide))))
              clear hV
              by_cases hst : st < i
              · as_aux_lemma =>
                have hq := hst
                have hst' : (st : Int) < (i : Int) := by omega
                have hst0 : (0 : Int) ≤ (st : Int) := by omega
                have hst2 : (st : Int) ≤ (i : Int) := by omega
                have hst3 : (i : Int) ≤ (s.size : Int) := by omega
                clear hsi hst hp h128
                go_wp2_with fail
                refine wp_region_still_tail 10 (by kernel_rfl) (by kernel_rfl) ?_
                simp only [List.take_succ_cons, List.take_zero, List.drop_succ_cons, List.drop_zero]
                iterate 10 with_reducible still_step
                with_reducible refine wpStill_nil ?_
                change wpList _ _ _ _ _ (World.drew wr)
                go_wp2_with fail
                refine (write_string hKs B b eb _ (s.extract st i) _ (HR.out.enc.drew hKp) (by have h1 := HR.out.bound HF.out.1; have h2 := HL.out; omega)).mono ?_
                rintro e w2 ⟨rfl, hw2⟩
                have HW2 := Lib.hid hw2
                have c2 := hw2.1.iface
                clear hw2 c0
                clear hq
                go_wp2_with fail
                refine (write_string hKs B b eb _ ⟨#[92,92]⟩ _ HW2.out.1 (by have h1 := HR.out.bound HF.out.1; have h2 := HL.out; rw [List.length_append, Array.length_toList]; show _ + _ + 2 ≤ _; exact Nat.le_trans (Nat.add_le_add_right h1 2) (by omega))).mono ?_
                rintro e w3 ⟨rfl, hw3⟩
                have HW3 := Lib.hid hw3
                clear hw3 c2
                go_wp2_with fail
                go_roundg (s.size - (i + 1))
                case measure => omega
                case rel => exact ⟨i + 1, i + 1, by go_num, by go_num, Nat.le_refl _, by omega, rfl, Lib.hid (HR.out.escF HF.out.1 hlt HF.out.2.1 HF.out.2.2 HW2.out HW3.out)⟩
              · as_aux_lemma =>
                obtain rfl : st = i := by omega
                clear hsi hst hp h128
                go_wp2_with fail
                refine (write_string hKs B b eb _ ⟨#[92,92]⟩ _ HR.out.enc (by have h1 := HLN.out.1; have h2 := HL.out; rw [List.length_append, List.length_cons]; show _ + _ + 2 ≤ _; omega)).mono ?_
                rintro e w3 ⟨rfl, hw3⟩
                have HW3 := Lib.hid hw3
                clear hw3 c0
                go_wp2_with fail
                go_roundg (s.size - (st + 1))
                case measure => omega
                case rel => exact ⟨st + 1, st + 1, by go_num, by go_num, Nat.le_refl _, by omega, rfl, Lib.hid (HR.out.escN hlt HF.out.2.1 HF.out.2.2 HW3.out)⟩
            · by_cases hV : s[i].toNat = 8
              · have q0 : (s[i].toNat : Int) = 8 := by omega
                have HF := Lib.hid (And.intro hsi (And.intro h128 (encB_at s[i] 8 [92,98] hV (by decide))))
                clear hV
                by_cases hst : st < i
                · as_aux_lemma =>
                  have hq := hst
                  have hst' : (st : Int) < (i : Int) := by omega
                  have hst0 : (0 : Int) ≤ (st : Int) := by omega
                  have hst2 : (st : Int) ≤ (i : Int) := by omega
                  have hst3 : (i : Int) ≤ (s.size : Int) := by omega
                  clear hsi hst hp h128
                  go_wp2_with fail
                  refine wp_region_still_tail 10 (by kernel_rfl) (by kernel_rfl) ?_
                  simp only [List.take_succ_cons, List.take_zero, List.drop_succ_cons, List.drop_zero]
                  iterate 10 with_reducible still_step
                  with_reducible refine wpStill_nil ?_
                  change wpList _ _ _ _ _ (World.drew wr)
                  go_wp2_with fail
                  refine (write_string hKs B b eb _ (s.extract st i) _ (HR.out.enc.drew hKp) (by have h1 := HR.out.bound HF.out.1; have h2 := HL.out; omega)).mono ?_
                  rintro e w2 ⟨rfl, hw2⟩
                  have HW2 := Lib.hid hw2
                  have c2 := hw2.1.iface
                  clear hw2 c0
                  clear hq
                  go_wp2_with fail
                  refine (write_string hKs B b eb _ ⟨#[92,98]⟩ _ HW2.out.1 (by have h1 := HR.out.bound HF.out.1; have h2 := HL.out; rw [List.length_append, Array.length_toList]; show _ + _ + 2 ≤ _; exact Nat.le_trans (Nat.add_le_add_right h1 2) (by omega))).mono ?_
                  rintro e w3 ⟨rfl, hw3⟩
                  have HW3 := Lib.hid hw3
                  clear hw3 c2
                  go_wp2_with fail
                  go_roundg (s.size - (i + 1))
                  case measure => omega
                  case rel => exact ⟨i + 1, i + 1, by go_num, by go_num, Nat.le_refl _, by omega, rfl, Lib.hid (HR.out.escF HF.out.1 hlt HF.out.2.1 HF.out.2.2 HW2.out HW3.out)⟩
                · as_aux_lemma =>
                  obtain rfl : st = i := by omega
                  clear hsi hst hp h128
                  go_wp2_with fail
                  refine (write_string hKs B b eb _ ⟨#[92,98]⟩ _ HR.out.enc (by have h1 := HLN.out.1; have h2 := HL.out; rw [List.length_append, List.length_cons]; show _ + _ + 2 ≤ _; omega)).mono ?_
                  rintro e w3 ⟨rfl, hw3⟩
                  have HW3 := Lib.hid hw3
                  clear hw3 c0
                  go_wp2_with fail
                  go_roundg (s.size - (st + 1))
                  case measure => omega
                  case rel => exact ⟨st + 1, st + 1, by go_num, by go_num, Nat.le_refl _, by omega, rfl, Lib.hid (HR.out.escN hlt HF.out.2.1 HF.out.2.2 HW3.out)⟩
              · by_cases hV : s[i].toNat = 12
                · have q0 : (s[i].toNat : Int) = 12 := by omega
                  have HF := Lib.hid (And.intro hsi (And.intro h128 (encB_at s[i] 12 [92,102] hV (by decide))))
                  clear hV
                  by_cases hst : st < i
                  · as_aux_lemma =>
                    have hq := hst
                    have hst' : (st : Int) < (i : Int) := by omega
                    have hst0 : (0 : Int) ≤ (st : Int) := by omega
                    have hst2 : (st : Int) ≤ (i : Int) := by omega
                    have hst3 : (i : Int) ≤ (s.size : Int) := by omega
                    clear hsi hst hp h128
                    go_wp2_with fail
                    refine wp_region_still_tail 10 (by kernel_rfl) (by kernel_rfl) ?_
                    simp only [List.take_succ_cons, List.take_zero, List.drop_succ_cons, List.drop_zero]
                    iterate 10 with_reducible still_step
                    with_reducible refine wpStill_nil ?_
                    change wpList _ _ _ _ _ (World.drew wr)
                    go_wp2_with fail
                    refine (write_string hKs B b eb _ (s.extract st i) _ (HR.out.enc.drew hKp) (by have h1 := HR.out.bound HF.out.1; have h2 := HL.out; omega)).mono ?_
                    rintro e w2 ⟨rfl, hw2⟩
                    have HW2 := Lib.hid hw2
                    have c2 := hw2.1.iface
                    clear hw2 c0
                    clear hq
                    go_wp2_with fail
                    refine (write_string hKs B b eb _ ⟨#[92,102]⟩ _ HW2.out.1 (by have h1 := HR.out.bound HF.out.1; have h2 := HL.out; rw [List.length_append, Array.length_toList]; show _ + _ + 2 ≤ _; exact Nat.le_trans (Nat.add_le_add_right h1 2) (by omega))).mono ?_
                    rintro e w3 ⟨rfl, hw3⟩
                    have HW3 := Lib.hid hw3
                    clear hw3 c2
                    go_wp2_with fail
                    go_roundg (s.size - (i + 1))
                    case measure => omega
                    case rel => exact ⟨i + 1, i + 1, by go_num, by go_num, Nat.le_refl _, by omega, rfl, Lib.hid (HR.out.escF HF.out.1 hlt HF.out.2.1 HF.out.2.2 HW2.out HW3.out)⟩
                  · as_aux_lemma =>
                    obtain rfl : st = i := by omega
                    clear hsi hst hp h128
                    go_wp2_with fail
                    refine (write_string hKs B b eb _ ⟨#[92,102]⟩ _ HR.out.enc (by have h1 := HLN.out.1; have h2 := HL.out; rw [List.length_append, List.length_cons]; show _ + _ + 2 ≤ _; omega)).mono ?_
                    rintro e w3 ⟨rfl, hw3⟩
                    have HW3 := Lib.hid hw3
                    clear hw3 c0
                    go_wp2_with fail
                    go_roundg (s.size - (st + 1))
                    case measure => omega
                    case rel => exact ⟨st + 1, st + 1, by go_num, by go_num, Nat.le_refl _, by omega, rfl, Lib.hid (HR.out.escN hlt HF.out.2.1 HF.out.2.2 HW3.out)⟩
                · by_cases hV : s[i].toNat = 10
                  · have q0 : (s[i].toNat : Int) = 10 := by omega
                    have HF := Lib.hid (And.intro hsi (And.intro h128 (encB_at s[i] 10 [92,110] hV (by decide))))
                    clear hV
                    by_cases hst : st < i
                    · as_aux_lemma =>
                      have hq := hst
                      have hst' : (st : Int) < (i : Int) := by omega
                      have hst0 : (0 : Int) ≤ (st : Int) := by omega
                      have hst2 : (st : Int) ≤ (i : Int) := by omega
                      have hst3 : (i : Int) ≤ (s.size : Int) := by omega
                      clear hsi hst hp h128
                      go_wp2_with fail
                      refine wp_region_still_tail 10 (by kernel_rfl) (by kernel_rfl) ?_
                      simp only [List.take_succ_cons, List.take_zero, List.drop_succ_cons, List.drop_zero]
                      iterate 10 with_reducible still_step
                      with_reducible refine wpStill_nil ?_
                      change wpList _ _ _ _ _ (World.drew wr)
                      go_wp2_with fail
                      refine (write_string hKs B b eb _ (s.extract st i) _ (HR.out.enc.drew hKp) (by have h1 := HR.out.bound HF.out.1; have h2 := HL.out; omega)).mono ?_
                      rintro e w2 ⟨rfl, hw2⟩
                      have HW2 := Lib.hid hw2
                      have c2 := hw2.1.iface
                      clear hw2 c0
                      clear hq
                      go_wp2_with fail
                      refine (write_string hKs B b eb _ ⟨#[92,110]⟩ _ HW2.out.1 (by have h1 := HR.out.bound HF.out.1; have h2 := HL.out; rw [List.length_append, Array.length_toList]; show _ + _ + 2 ≤ _; exact Nat.le_trans (Nat.add_le_add_right h1 2) (by omega))).mono ?_
                      rintro e w3 ⟨rfl, hw3⟩
                      have HW3 := Lib.hid hw3
                      clear hw3 c2
                      go_wp2_with fail
                      go_roundg (s.size - (i + 1))
                      case measure => omega
                      case rel => exact ⟨i + 1, i + 1, by go_num, by go_num, Nat.le_refl _, by omega, rfl, Lib.hid (HR.out.escF HF.out.1 hlt HF.out.2.1 HF.out.2.2 HW2.out HW3.out)⟩
                    · as_aux_lemma =>
                      obtain rfl : st = i := by omega
                      clear hsi hst hp h128
                      go_wp2_with fail
                      refine (write_string hKs B b eb _ ⟨#[92,110]⟩ _ HR.out.enc (by have h1 := HLN.out.1; have h2 := HL.out; rw [List.length_append, List.length_cons]; show _ + _ + 2 ≤ _; omega)).mono ?_
                      rintro e w3 ⟨rfl, hw3⟩
                      have HW3 := Lib.hid hw3
                      clear hw3 c0
                      go_wp2_with fail
                      go_roundg (s.size - (st + 1))
                      case measure => omega
                      case rel => exact ⟨st + 1, st + 1, by go_num, by go_num, Nat.le_refl _, by omega, rfl, Lib.hid (HR.out.escN hlt HF.out.2.1 HF.out.2.2 HW3.out)⟩
                  · by_cases hV : s[i].toNat = 13
                    · have q0 : (s[i].toNat : Int) = 13 := by omega
                      have HF := Lib.hid (And.intro hsi (And.intro h128 (encB_at s[i] 13 [92,114] hV (by decide))))
                      clear hV
                      by_cases hst : st < i
                      · as_aux_lemma =>
                        have hq := hst
                        have hst' : (st : Int) < (i : Int) := by omega
                        have hst0 : (0 : Int) ≤ (st : Int) := by omega
                        have hst2 : (st : Int) ≤ (i : Int) := by omega
                        have hst3 : (i : Int) ≤ (s.size : Int) := by omega
                        clear hsi hst hp h128
                        go_wp2_with fail
                        refine wp_region_still_tail 10 (by kernel_rfl) (by kernel_rfl) ?_
                        simp only [List.take_succ_cons, List.take_zero, List.drop_succ_cons, List.drop_zero]
                        iterate 10 with_reducible still_step
                        with_reducible refine wpStill_nil ?_
                        change wpList _ _ _ _ _ (World.drew wr)
                        go_wp2_with fail
                        refine (write_string hKs B b eb _ (s.extract st i) _ (HR.out.enc.drew hKp) (by have h1 := HR.out.bound HF.out.1; have h2 := HL.out; omega)).mono ?_
                        rintro e w2 ⟨rfl, hw2⟩
                        have HW2 := Lib.hid hw2
                        have c2 := hw2.1.iface
                        clear hw2 c0
                        clear hq
                        go_wp2_with fail
                        refine (write_string hKs B b eb _ ⟨#[92,114]⟩ _ HW2.out.1 (by have h1 := HR.out.bound HF.out.1; have h2 := HL.out; rw [List.length_append, Array.length_toList]; show _ + _ + 2 ≤ _; exact Nat.le_trans (Nat.add_le_add_right h1 2) (by omega))).mono ?_
                        rintro e w3 ⟨rfl, hw3⟩
                        have HW3 := Lib.hid hw3
                        clear hw3 c2
                        go_wp2_with fail
                        go_roundg (s.size - (i + 1))
                        case measure => omega
                        case rel => exact ⟨i + 1, i + 1, by go_num, by go_num, Nat.le_refl _, by omega, rfl, Lib.hid (HR.out.escF HF.out.1 hlt HF.out.2.1 HF.out.2.2 HW2.out HW3.out)⟩
                      · as_aux_lemma =>
                        obtain rfl : st = i := by omega
                        clear hsi hst hp h128
                        go_wp2_with fail
                        refine (write_string hKs B b eb _ ⟨#[92,114]⟩ _ HR.out.enc (by have h1 := HLN.out.1; have h2 := HL.out; rw [List.length_append, List.length_cons]; show _ + _ + 2 ≤ _; omega)).mono ?_
                        rintro e w3 ⟨rfl, hw3⟩
                        have HW3 := Lib.hid hw3
                        clear hw3 c0
                        go_wp2_with fail
                        go_roundg (s.size - (st + 1))
                        case measure => omega
                        case rel => exact ⟨st + 1, st + 1, by go_num, by go_num, Nat.le_refl _, by omega, rfl, Lib.hid (HR.out.escN hlt HF.out.2.1 HF.out.2.2 HW3.out)⟩
                    · by_cases hV : s[i].toNat = 9
                      · have q0 : (s[i].toNat : Int) = 9 := by omega
                        have HF := Lib.hid (And.intro hsi (And.intro h128 (encB_at s[i] 9 [92,116] hV (by decide))))
                        clear hV
                        by_cases hst : st < i
                        · as_aux_lemma =>
                          have hq := hst
                          have hst' : (st : Int) < (i : Int) := by omega
                          have hst0 : (0 : Int) ≤ (st : Int) := by omega
                          have hst2 : (st : Int) ≤ (i : Int) := by omega
                          have hst3 : (i : Int) ≤ (s.size : Int) := by omega
                          clear hsi hst hp h128
                          go_wp2_with fail
                          refine wp_region_still_tail 10 (by kernel_rfl) (by kernel_rfl) ?_
                          simp only [List.take_succ_cons, List.take_zero, List.drop_succ_cons, List.drop_zero]
                          iterate 10 with_reducible still_step
                          with_reducible refine wpStill_nil ?_
                          change wpList _ _ _ _ _ (World.drew wr)
                          go_wp2_with fail
                          refine (write_string hKs B b eb _ (s.extract st i) _ (HR.out.enc.drew hKp) (by have h1 := HR.out.bound HF.out.1; have h2 := HL.out; omega)).mono ?_
                          rintro e w2 ⟨rfl, hw2⟩
                          have HW2 := Lib.hid hw2
                          have c2 := hw2.1.iface
                          clear hw2 c0
                          clear hq
                          go_wp2_with fail
                          refine (write_string hKs B b eb _ ⟨#[92,116]⟩ _ HW2.out.1 (by have h1 := HR.out.bound HF.out.1; have h2 := HL.out; rw [List.length_append, Array.length_toList]; show _ + _ + 2 ≤ _; exact Nat.le_trans (Nat.add_le_add_right h1 2) (by omega))).mono ?_
                          rintro e w3 ⟨rfl, hw3⟩
                          have HW3 := Lib.hid hw3
                          clear hw3 c2
                          go_wp2_with fail
                          go_roundg (s.size - (i + 1))
                          case measure => omega
                          case rel => exact ⟨i + 1, i + 1, by go_num, by go_num, Nat.le_refl _, by omega, rfl, Lib.hid (HR.out.escF HF.out.1 hlt HF.out.2.1 HF.out.2.2 HW2.out HW3.out)⟩
                        · as_aux_lemma =>
                          obtain rfl : st = i := by omega
                          clear hsi hst hp h128
                          go_wp2_with fail
                          refine (write_string hKs B b eb _ ⟨#[92,116]⟩ _ HR.out.enc (by have h1 := HLN.out.1; have h2 := HL.out; rw [List.length_append, List.length_cons]; show _ + _ + 2 ≤ _; omega)).mono ?_
                          rintro e w3 ⟨rfl, hw3⟩
                          have HW3 := Lib.hid hw3
                          clear hw3 c0
                          go_wp2_with fail
                          go_roundg (s.size - (st + 1))
                          case measure => omega
                          case rel => exact ⟨st + 1, st + 1, by go_num, by go_num, Nat.le_refl _, by omega, rfl, Lib.hid (HR.out.escN hlt HF.out.2.1 HF.out.2.2 HW3.out)⟩
                      · have hctl : s[i].toNat < 32 ∨ s[i].toNat = 127 := by
                          rcases Nat.lt_or_ge s[i].toNat 32 with h | h
                          · exact .inl h
                          · refine .inr (Classical.byContradiction fun h7 => hp ⟨h, h7, by omega, by omega⟩)
                        have r34 : ((s[i].toNat : Int) == 34) = false := by simp; omega
                        have r92 : ((s[i].toNat : Int) == 92) = false := by simp; omega
                        have r8 : ((s[i].toNat : Int) == 8) = false := by simp; omega
                        have r12 : ((s[i].toNat : Int) == 12) = false := by simp; omega
                        have r10 : ((s[i].toNat : Int) == 10) = false := by simp; omega
                        have r13 : ((s[i].toNat : Int) == 13) = false := by simp; omega
                        have r9 : ((s[i].toNat : Int) == 9) = false := by simp; omega
                        have t34 : ((s[i].toNat : Int) != 34) = true := by simp; omega
                        have t92 : ((s[i].toNat : Int) != 92) = true := by simp; omega
                        have t8 : ((s[i].toNat : Int) != 8) = true := by simp; omega
                        have t12 : ((s[i].toNat : Int) != 12) = true := by simp; omega
                        have t10 : ((s[i].toNat : Int) != 10) = true := by simp; omega
                        have t13 : ((s[i].toNat : Int) != 13) = true := by simp; omega
                        have t9 : ((s[i].toNat : Int) != 9) = true := by simp; omega
                        have HF := Lib.hid (And.intro hsi (And.intro h128 (encB_ctl s[i] hctl (by omega) (by omega) (by omega) (by omega) (by omega) (by omega) (by omega))))
                        have q0 : (s[i].toNat : Int) < 128 := by omega
                        by_cases hl : s[i].toNat < 32
                        · have q1 : ¬ ((32 : Int) ≤ (s[i].toNat : Int)) := by omega
                          clear hl hctl
                          by_cases hst : st < i
                          · as_aux_lemma =>
                            have hq := hst
                            have hst' : (st : Int) < (i : Int) := by omega
                            have hst0 : (0 : Int) ≤ (st : Int) := by omega
                            have hst2 : (st : Int) ≤ (i : Int) := by omega
                            have hst3 : (i : Int) ≤ (s.size : Int) := by omega
                            clear hsi hst hp h128
                            go_wp2_with fail
                            refine wp_region_still_tail 10 (by kernel_rfl) (by kernel_rfl) ?_
                            simp only [List.take_succ_cons, List.take_zero, List.drop_succ_cons, List.drop_zero]
                            iterate 10 with_reducible still_step
                            with_reducible refine wpStill_nil ?_
                            change wpList _ _ _ _ _ (World.drew wr)
                            go_wp2_with fail
                            refine (write_string hKs B b eb _ (s.extract st i) _ (HR.out.enc.drew hKp) (by have h1 := HR.out.bound HF.out.1; have h2 := HL.out; omega)).mono ?_
                            rintro e w2 ⟨rfl, hw2⟩
                            have HW2 := Lib.hid hw2
                            have c2 := hw2.1.iface
                            clear hw2 c0
                            clear hq
                            go_wp2_with fail
                            refine (write_string hKs B b eb _ ⟨#[92,117,48,48]⟩ _ HW2.out.1 (by have h1 := HR.out.bound HF.out.1; have h2 := HL.out; rw [List.length_append, Array.length_toList]; show _ + _ + 4 ≤ _; exact Nat.le_trans (Nat.add_le_add_right h1 4) (by omega))).mono ?_
                            rintro e w3 ⟨rfl, hw3⟩
                            have HW3 := Lib.hid hw3
                            have c3 := hw3.1.iface
                            clear hw3 c2
                            go_wp2_with fail
                            refine wp_region_still_tail 9 (by kernel_rfl) (by kernel_rfl) ?_
                            simp only [List.take_succ_cons, List.take_zero, List.drop_succ_cons, List.drop_zero]
                            iterate 6 with_reducible still_step
                            have x0 : (0 : Int) ≤ (s[i].toNat : Int) / 16 ∧ (s[i].toNat : Int) / 16 < 16 := by omega
                            have x1 : (hexL ((s[i].toNat : Int) / 16).toNat) = hexL (s[i].toNat / 16) := rfl
                            with_reducible refine wpStill_step (fun K hK => ?_)
                            go_simp
                            simp only [hex_at _ x0]
                            rw [x1]
                            go_simp
                            refine hK _ ?_
                            clear hK K x0 x1
                            iterate 2 with_reducible still_step
                            with_reducible refine wpStill_nil ?_
                            change wpList _ _ _ _ _ (World.drew w3)
                            go_wp2_with fail
                            refine (write_byte hKb B b eb _ (hexL (s[i].toNat / 16)) _ (HW3.out.1.drew hKp) (by have h1 := HR.out.bound HF.out.1; have h2 := HL.out; rw [List.length_append, List.length_append, Array.length_toList]; show _ + _ + 4 + 1 ≤ _; exact Nat.le_trans (Nat.add_le_add_right h1 5) (by omega))).mono ?_
                            rintro e w4 ⟨rfl, hw4⟩
                            have HW4 := Lib.hid hw4
                            have c4 := hw4.1.iface
                            clear hw4 c3
                            go_wp2_with fail
                            refine wp_region_still_tail 9 (by kernel_rfl) (by kernel_rfl) ?_
                            simp only [List.take_succ_cons, List.take_zero, List.drop_succ_cons, List.drop_zero]
                            iterate 6 with_reducible still_step
                            have x0 : (0 : Int) ≤ bits .and .u8 (s[i].toNat : Int) 15 ∧ bits .and .u8 (s[i].toNat : Int) 15 < 16 := by rw [and15]; omega
                            have x1 : (hexL (bits .and .u8 (s[i].toNat : Int) 15).toNat) = hexL (s[i].toNat % 16) := by rw [and15]; rfl
                            with_reducible refine wpStill_step (fun K hK => ?_)
                            go_simp
                            simp only [hex_at _ x0]
                            rw [x1]
                            go_simp
                            refine hK _ ?_
                            clear hK K x0 x1
                            iterate 2 with_reducible still_step
                            with_reducible refine wpStill_nil ?_
                            change wpList _ _ _ _ _ (World.drew w4)
                            go_wp2_with fail
                            refine (write_byte hKb B b eb _ (hexL (s[i].toNat % 16)) _ (HW4.out.1.drew hKp) (by have h1 := HR.out.bound HF.out.1; have h2 := HL.out; rw [List.length_append, List.length_append, List.length_append, Array.length_toList]; show _ + _ + 4 + 1 + 1 ≤ _; exact Nat.le_trans (Nat.add_le_add_right h1 6) (by omega))).mono ?_
                            rintro e w5 ⟨rfl, hw5⟩
                            have HW5 := Lib.hid hw5
                            clear hw5 c4
                            go_wp2_with fail
                            go_roundg (s.size - (i + 1))
                            case measure => omega
                            case rel => exact ⟨i + 1, i + 1, by go_num, by go_num, Nat.le_refl _, by omega, rfl, Lib.hid (HR.out.escF HF.out.1 hlt HF.out.2.1 HF.out.2.2 HW2.out (HW3.out.ctl HW4.out HW5.out))⟩
                          · as_aux_lemma =>
                            obtain rfl : st = i := by omega
                            clear hsi hst hp h128
                            go_wp2_with fail
                            refine (write_string hKs B b eb _ ⟨#[92,117,48,48]⟩ _ HR.out.enc (by have h1 := HLN.out.1; have h2 := HL.out; rw [List.length_append, List.length_cons]; show _ + _ + 4 ≤ _; omega)).mono ?_
                            rintro e w3 ⟨rfl, hw3⟩
                            have HW3 := Lib.hid hw3
                            have c3 := hw3.1.iface
                            clear hw3 c0
                            go_wp2_with fail
                            refine wp_region_still_tail 9 (by kernel_rfl) (by kernel_rfl) ?_
                            simp only [List.take_succ_cons, List.take_zero, List.drop_succ_cons, List.drop_zero]
                            iterate 6 with_reducible still_step
                            have x0 : (0 : Int) ≤ (s[st].toNat : Int) / 16 ∧ (s[st].toNat : Int) / 16 < 16 := by omega
                            have x1 : (hexL ((s[st].toNat : Int) / 16).toNat) = hexL (s[st].toNat / 16) := rfl
                            with_reducible refine wpStill_step (fun K hK => ?_)
                            go_simp
                            simp only [hex_at _ x0]
                            rw [x1]
                            go_simp
                            refine hK _ ?_
                            clear hK K x0 x1
                            iterate 2 with_reducible still_step
                            with_reducible refine wpStill_nil ?_
                            change wpList _ _ _ _ _ (World.drew w3)
                            go_wp2_with fail
                            refine (write_byte hKb B b eb _ (hexL (s[st].toNat / 16)) _ (HW3.out.1.drew hKp) (by have h1 := HLN.out.1; have h2 := HL.out; rw [List.length_append, List.length_append, List.length_cons]; show _ + _ + 4 + 1 ≤ _; omega)).mono ?_
                            rintro e w4 ⟨rfl, hw4⟩
                            have HW4 := Lib.hid hw4
                            have c4 := hw4.1.iface
                            clear hw4 c3
                            go_wp2_with fail
                            refine wp_region_still_tail 9 (by kernel_rfl) (by kernel_rfl) ?_
                            simp only [List.take_succ_cons, List.take_zero, List.drop_succ_cons, List.drop_zero]
                            iterate 6 with_reducible still_step
                            have x0 : (0 : Int) ≤ bits .and .u8 (s[st].toNat : Int) 15 ∧ bits .and .u8 (s[st].toNat : Int) 15 < 16 := by rw [and15]; omega
                            have x1 : (hexL (bits .and .u8 (s[st].toNat : Int) 15).toNat) = hexL (s[st].toNat % 16) := by rw [and15]; rfl
                            with_reducible refine wpStill_step (fun K hK => ?_)
                            go_simp
                            simp only [hex_at _ x0]
                            rw [x1]
                            go_simp
                            refine hK _ ?_
                            clear hK K x0 x1
                            iterate 2 with_reducible still_step
                            with_reducible refine wpStill_nil ?_
                            change wpList _ _ _ _ _ (World.drew w4)
                            go_wp2_with fail
                            refine (write_byte hKb B b eb _ (hexL (s[st].toNat % 16)) _ (HW4.out.1.drew hKp) (by have h1 := HLN.out.1; have h2 := HL.out; rw [List.length_append, List.length_append, List.length_append, List.length_cons]; show _ + _ + 4 + 1 + 1 ≤ _; omega)).mono ?_
                            rintro e w5 ⟨rfl, hw5⟩
                            have HW5 := Lib.hid hw5
                            clear hw5 c4
                            go_wp2_with fail
                            go_roundg (s.size - (st + 1))
                            case measure => omega
                            case rel => exact ⟨st + 1, st + 1, by go_num, by go_num, Nat.le_refl _, by omega, rfl, Lib.hid (HR.out.escN hlt HF.out.2.1 HF.out.2.2 (HW3.out.ctl HW4.out HW5.out))⟩
                        · have q1 : ((32 : Int) ≤ (s[i].toNat : Int)) := by omega
                          have q2 : ¬ ((s[i].toNat : Int) ≤ 126) := by omega
                          clear hl hctl
                          by_cases hst : st < i
                          · as_aux_lemma =>
                            have hq := hst
                            have hst' : (st : Int) < (i : Int) := by omega
                            have hst0 : (0 : Int) ≤ (st : Int) := by omega
                            have hst2 : (st : Int) ≤ (i : Int) := by omega
                            have hst3 : (i : Int) ≤ (s.size : Int) := by omega
                            clear hsi hst hp h128
                            go_wp2_with fail
                            refine wp_region_still_tail 10 (by kernel_rfl) (by kernel_rfl) ?_
                            simp only [List.take_succ_cons, List.take_zero, List.drop_succ_cons, List.drop_zero]
                            iterate 10 with_reducible still_step
                            with_reducible refine wpStill_nil ?_
                            change wpList _ _ _ _ _ (World.drew wr)
                            go_wp2_with fail
                            refine (write_string hKs B b eb _ (s.extract st i) _ (HR.out.enc.drew hKp) (by have h1 := HR.out.bound HF.out.1; have h2 := HL.out; omega)).mono ?_
                            rintro e w2 ⟨rfl, hw2⟩
                            have HW2 := Lib.hid hw2
                            have c2 := hw2.1.iface
                            clear hw2 c0
                            clear hq
                            go_wp2_with fail
                            refine (write_string hKs B b eb _ ⟨#[92,117,48,48]⟩ _ HW2.out.1 (by have h1 := HR.out.bound HF.out.1; have h2 := HL.out; rw [List.length_append, Array.length_toList]; show _ + _ + 4 ≤ _; exact Nat.le_trans (Nat.add_le_add_right h1 4) (by omega))).mono ?_
                            rintro e w3 ⟨rfl, hw3⟩
                            have HW3 := Lib.hid hw3
                            have c3 := hw3.1.iface
                            clear hw3 c2
                            go_wp2_with fail
                            refine wp_region_still_tail 9 (by kernel_rfl) (by kernel_rfl) ?_
                            simp only [List.take_succ_cons, List.take_zero, List.drop_succ_cons, List.drop_zero]
                            iterate 6 with_reducible still_step
                            have x0 : (0 : Int) ≤ (s[i].toNat : Int) / 16 ∧ (s[i].toNat : Int) / 16 < 16 := by omega
                            have x1 : (hexL ((s[i].toNat : Int) / 16).toNat) = hexL (s[i].toNat / 16) := rfl
                            with_reducible refine wpStill_step (fun K hK => ?_)
                            go_simp
                            simp only [hex_at _ x0]
                            rw [x1]
                            go_simp
                            refine hK _ ?_
                            clear hK K x0 x1
                            iterate 2 with_reducible still_step
                            with_reducible refine wpStill_nil ?_
                            change wpList _ _ _ _ _ (World.drew w3)
                            go_wp2_with fail
                            refine (write_byte hKb B b eb _ (hexL (s[i].toNat / 16)) _ (HW3.out.1.drew hKp) (by have h1 := HR.out.bound HF.out.1; have h2 := HL.out; rw [List.length_append, List.length_append, Array.length_toList]; show _ + _ + 4 + 1 ≤ _; exact Nat.le_trans (Nat.add_le_add_right h1 5) (by omega))).mono ?_
                            rintro e w4 ⟨rfl, hw4⟩
                            have HW4 := Lib.hid hw4
                            have c4 := hw4.1.iface
                            clear hw4 c3
                            go_wp2_with fail
                            refine wp_region_still_tail 9 (by kernel_rfl) (by kernel_rfl) ?_
                            simp only [List.take_succ_cons, List.take_zero, List.drop_succ_cons, List.drop_zero]
                            iterate 6 with_reducible still_step
                            have x0 : (0 : Int) ≤ bits .and .u8 (s[i].toNat : Int) 15 ∧ bits .and .u8 (s[i].toNat : Int) 15 < 16 := by rw [and15]; omega
                            have x1 : (hexL (bits .and .u8 (s[i].toNat : Int) 15).toNat) = hexL (s[i].toNat % 16) := by rw [and15]; rfl
                            with_reducible refine wpStill_step (fun K hK => ?_)
                            go_simp
                            simp only [hex_at _ x0]
                            rw [x1]
                            go_simp
                            refine hK _ ?_
                            clear hK K x0 x1
                            iterate 2 with_reducible still_step
                            with_reducible refine wpStill_nil ?_
                            change wpList _ _ _ _ _ (World.drew w4)
                            go_wp2_with fail
                            refine (write_byte hKb B b eb _ (hexL (s[i].toNat % 16)) _ (HW4.out.1.drew hKp) (by have h1 := HR.out.bound HF.out.1; have h2 := HL.out; rw [List.length_append, List.length_append, List.length_append, Array.length_toList]; show _ + _ + 4 + 1 + 1 ≤ _; exact Nat.le_trans (Nat.add_le_add_right h1 6) (by omega))).mono ?_
                            rintro e w5 ⟨rfl, hw5⟩
                            have HW5 := Lib.hid hw5
                            clear hw5 c4
                            go_wp2_with fail
                            go_roundg (s.size - (i + 1))
                            case measure => omega
                            case rel => exact ⟨i + 1, i + 1, by go_num, by go_num, Nat.le_refl _, by omega, rfl, Lib.hid (HR.out.escF HF.out.1 hlt HF.out.2.1 HF.out.2.2 HW2.out (HW3.out.ctl HW4.out HW5.out))⟩
                          · as_aux_lemma =>
                            obtain rfl : st = i := by omega
                            clear hsi hst hp h128
                            go_wp2_with fail
                            refine (write_string hKs B b eb _ ⟨#[92,117,48,48]⟩ _ HR.out.enc (by have h1 := HLN.out.1; have h2 := HL.out; rw [List.length_append, List.length_cons]; show _ + _ + 4 ≤ _; omega)).mono ?_
                            rintro e w3 ⟨rfl, hw3⟩
                            have HW3 := Lib.hid hw3
                            have c3 := hw3.1.iface
                            clear hw3 c0
                            go_wp2_with fail
                            refine wp_region_still_tail 9 (by kernel_rfl) (by kernel_rfl) ?_
                            simp only [List.take_succ_cons, List.take_zero, List.drop_succ_cons, List.drop_zero]
                            iterate 6 with_reducible still_step
                            have x0 : (0 : Int) ≤ (s[st].toNat : Int) / 16 ∧ (s[st].toNat : Int) / 16 < 16 := by omega
                            have x1 : (hexL ((s[st].toNat : Int) / 16).toNat) = hexL (s[st].toNat / 16) := rfl
                            with_reducible refine wpStill_step (fun K hK => ?_)
                            go_simp
                            simp only [hex_at _ x0]
                            rw [x1]
                            go_simp
                            refine hK _ ?_
                            clear hK K x0 x1
                            iterate 2 with_reducible still_step
                            with_reducible refine wpStill_nil ?_
                            change wpList _ _ _ _ _ (World.drew w3)
                            go_wp2_with fail
                            refine (write_byte hKb B b eb _ (hexL (s[st].toNat / 16)) _ (HW3.out.1.drew hKp) (by have h1 := HLN.out.1; have h2 := HL.out; rw [List.length_append, List.length_append, List.length_cons]; show _ + _ + 4 + 1 ≤ _; omega)).mono ?_
                            rintro e w4 ⟨rfl, hw4⟩
                            have HW4 := Lib.hid hw4
                            have c4 := hw4.1.iface
                            clear hw4 c3
                            go_wp2_with fail
                            refine wp_region_still_tail 9 (by kernel_rfl) (by kernel_rfl) ?_
                            simp only [List.take_succ_cons, List.take_zero, List.drop_succ_cons, List.drop_zero]
                            iterate 6 with_reducible still_step
                            have x0 : (0 : Int) ≤ bits .and .u8 (s[st].toNat : Int) 15 ∧ bits .and .u8 (s[st].toNat : Int) 15 < 16 := by rw [and15]; omega
                            have x1 : (hexL (bits .and .u8 (s[st].toNat : Int) 15).toNat) = hexL (s[st].toNat % 16) := by rw [and15]; rfl
                            with_reducible refine wpStill_step (fun K hK => ?_)
                            go_simp
                            simp only [hex_at _ x0]
                            rw [x1]
                            go_simp
                            refine hK _ ?_
                            clear hK K x0 x1
                            iterate 2 with_reducible still_step
                            with_reducible refine wpStill_nil ?_
                            change wpList _ _ _ _ _ (World.drew w4)
                            go_wp2_with fail
                            refine (write_byte hKb B b eb _ (hexL (s[st].toNat % 16)) _ (HW4.out.1.drew hKp) (by have h1 := HLN.out.1; have h2 := HL.out; rw [List.length_append, List.length_append, List.length_append, List.length_cons]; show _ + _ + 4 + 1 + 1 ≤ _; omega)).mono ?_
                            rintro e w5 ⟨rfl, hw5⟩
                            have HW5 := Lib.hid hw5
                            clear hw5 c4
                            go_wp2_with fail
                            go_roundg (s.size - (st + 1))
                            case measure => omega
                            case rel => exact ⟨st + 1, st + 1, by go_num, by go_num, Nat.le_refl _, by omega, rfl, Lib.hid (HR.out.escN hlt HF.out.2.1 HF.out.2.2 (HW3.out.ctl HW4.out HW5.out))⟩
      · as_aux_lemma =>
        obtain ⟨r, k, hd, hk2, hik, hv2, hc2⟩ := dec_at s i hlt (by omega) HR.out.valid
        have HJ := Lib.hid (And.intro hsi (And.intro hik (And.intro hv2 hc2)))
        have q0 : ¬ ((s[i].toNat : Int) < 128) := by omega
        have q1 : ((k : Int) == 1) = false := by simp; omega
        have q2 : (i : Int) ≤ (s.size : Int) := by omega
        clear hv2 hc2 hsi h128
        go_wp2_with fail
        refine (Go.Proofs.Tryz.utf8_DecodeRuneInString _ _ (HT.out _ HR.out.below)).mono ?_
        rintro e w2 ⟨rfl, hb2⟩
        rw [hd]
        have HB := Lib.hid hb2
        clear hb2 hd c0
        by_cases hr : r = 65533
        · have r1 : ((r : Int) == 65533) = true := by simp; omega
          clear hr
          go_wp2_with fail
          go_roundg (s.size - (i + k))
          case measure => omega
          case rel => exact ⟨st, i + k, rfl, by go_num, by have := HJ.out.1; omega, by omega, rfl, Lib.hid (HR.out.jump hKp HJ.out.1 HJ.out.2.2.2 HJ.out.2.1 HJ.out.2.2.1 HB.out)⟩
        · have r1 : ((r : Int) == 65533) = false := by simp; omega
          clear hr
          go_wp2_with fail
          go_roundg (s.size - (i + k))
          case measure => omega
          case rel => exact ⟨st, i + k, rfl, by go_num, by have := HJ.out.1; omega, by omega, rfl, Lib.hid (HR.out.jump hKp HJ.out.1 HJ.out.2.2.2 HJ.out.2.1 HJ.out.2.2.1 HB.out)⟩
    · obtain rfl : i = s.size := by omega
      clear hlt hi
      by_cases hst : st < s.size
      · as_aux_lemma =>
        have hst' : (st : Int) < (s.size : Int) := by omega
        have hst0 : (0 : Int) ≤ (st : Int) := by omega
        have hst2 : (st : Int) ≤ (s.size : Int) := by omega
        have hn : ¬ ((s.size : Int) < (s.size : Int)) := by omega
        clear hst
        go_wp2_with fail
        refine wp_region_still_tail 9 (by kernel_rfl) (by kernel_rfl) ?_
        simp only [List.take_succ_cons, List.take_zero, List.drop_succ_cons, List.drop_zero]
        iterate 9 with_reducible still_step
        with_reducible refine wpStill_nil ?_
        change wpList _ _ _ _ _ (World.drew wr)
        go_wp2_with fail
        refine (write_string hKs B b eb _ (s.extract st s.size) _ (HR.out.enc.drew hKp) (by have h1 := HR.out.bound hsi; have h2 := HL.out; omega)).mono ?_
        rintro e w2 ⟨rfl, hw2⟩
        have HW2 := Lib.hid hw2
        have c2 := hw2.1.iface
        clear hw2 c0
        go_wp2_with fail
        refine (write_byte hKb B b eb _ 34 _ HW2.out.1 (by have h1 := HR.out.bound hsi; have h2 := HL.out; rw [List.length_append, Array.length_toList]; exact Nat.le_trans (Nat.add_le_add_right h1 1) (by omega))).mono ?_
        rintro e w3 ⟨rfl, hw3⟩
        have HW3 := Lib.hid hw3
        clear hw3 c2
        go_wp2_with fail
        go_end0
        exact ⟨rfl, HR.out.fin hsi HW2.out HW3.out⟩
      · as_aux_lemma =>
        obtain rfl : st = s.size := by omega
        have hn : ¬ ((s.size : Int) < (s.size : Int)) := by omega
        clear hst
        go_wp2_with fail
        refine (write_byte hKb B b eb _ 34 _ HR.out.enc (by have h1 := EncL.len (s := s) s.size; have h2 := HL.out; rw [List.length_append, List.length_cons]; omega)).mono ?_
        rintro e w3 ⟨rfl, hw3⟩
        have HW3 := Lib.hid hw3
        clear hw3 c0
        go_wp2_with fail
        go_end0
        exact ⟨rfl, HR.out.finN HW3.out⟩
theorem encodeString_any {K : Wr} (hKp : K.Keeps) (hKb : K.Bytes) (hKs : K.Strs) (s : ByteArray) (B b eb : Nat) (l0 : List UInt8) (w : World) (hv : Lib.validD s.data.toList = true) (hS : EncS K B b eb l0 w) (hT : ∀ W, Below B w W → Tabs W) (hlen : l0.length + 6 * s.size + 2 ≤ 140737488355328) :
    Calls Tryz.prog 131 #[.pointer (some ⟨eb, 0, none⟩), .string s] w (EncPost K B b eb (l0 ++ 34 :: s.data.toList.flatMap encB ++ [34]) w) :=
  (encodeString_o hKp hKb hKs s B b eb l0 w hv hS hT hlen).mono fun _ _ h => ⟨h.1, h.2.1, h.2.2.1, EKept.of_others h.2.2.2⟩
end Go.Proofs.YtjpcdbopioblaaaGreatDoor
