/- FnQuote walked: a text as JSON is read back as it, and stands as it is up to the first control sign. -/
import Derived.Test.YtjpcdbopioblaaaDoorReadTop
import Derived.Test.YtjpcdbopioblaaaDoorQuoteText
namespace Go.Proofs.YtjpcdbopioblaaaDoor
open Go.RowKit

theorem below_drew (w : World) : Below w.heap.size w w.drew := ⟨rfl, rfl, rfl, Nat.le_refl _, fun _ _ => rfl⟩
theorem below_drewN (w : World) (n : Nat) : Below w.heap.size w (w.drewN n) := ⟨rfl, rfl, rfl, Nat.le_refl _, fun _ _ => rfl⟩

set_option maxRecDepth 100000 in
set_option maxHeartbeats 3200000 in
theorem fnQuote_law_at {s : ByteArray} {w : World} (hs : s.size ≤ reachN) (hT : Tabs w) :
    Calls Tryd.prog 4 #[.string s] w fun e w' => e = .returned (.bool true) ∧ Below w.heap.size w w' := by
  unfold reachN at hs
  by_cases h1 : s.size ≤ 2147483647
  · by_cases h2 : s.size ≤ 4096
    · have HT := Lib.hid (fun wx (hb : Below w.heap.size w wx) => hT.below hb)
      have HVC := Lib.hid (valid_c s w (by omega) hT)
      have k1 : ¬ ((2147483647 : Int) < (s.size : Int)) := by omega
      have k2 : ¬ ((4096 : Int) < (s.size : Int)) := by omega
      clear h1 hT
      go_enter Tryd.func4, Tryd.ntmps4
      go_wp2_with fail
      refine HVC.out.mono ?_
      rintro e w1 ⟨rfl, hb1⟩
      have HB1 := Lib.hid hb1
      clear hb1 HVC
      cases hv : Lib.validD s.data.toList
      · clear hv
        go_wp2_with fail
        go_ret
        exact ⟨rfl, HB1.out⟩
      · have HV := Lib.hid hv
        clear hv
        go_wp2_with fail
        refine (quoteText_any s _ HV.out (HT.out _ HB1.out) (by omega)).mono ?_
        rintro e w2 ⟨rfl, hb2⟩
        have HB2 := Lib.hid (HB1.out.trans (hb2.mono HB1.out.size))
        have HE := Lib.hid (isEnc_text s)
        clear hb2 HB1 HT HV
        generalize (⟨(34 :: s.data.toList.flatMap encB ++ [34]).toArray⟩ : ByteArray) = src at HE ⊢
        have HSZ : Hid (src.size ≤ 140737488355328) := Lib.hid (by
          have h3 := HE.out.size
          have h4 := EncL.len (s := s) s.size
          unfold posE at h3
          omega)
        go_wp2_with fail
        refine (read_any s src _ HE.out HSZ.out).mono ?_
        rintro e w3 ⟨rfl, hb3⟩
        have HB3 := Lib.hid (HB2.out.trans (hb3.mono HB2.out.size))
        clear hb3 HB2
        unfold qv
        go_wp2_with fail
        have HQ := Lib.hid (QB.new (w := w3) (cs := #[.string ⟨#[118, 97, 108]⟩, .string ⟨#[]⟩, .int .i64 4, .int .i64 0, .string s, .slice none 0 0, .slice none 0 0, .slice none 0 0, .slice none 0 0, .slice none 0 0, .slice none 0 0, .slice none 0 0]) (Below.refl _ _))
        have HW := Lib.hid (HB3.out.trans (((Below.refl _ _).alloc (Nat.le_refl _) (.cells #[.string ⟨#[118, 97, 108]⟩, .string ⟨#[]⟩, .int .i64 4, .int .i64 0, .string s, .slice none 0 0, .slice none 0 0, .slice none 0 0, .slice none 0 0, .slice none 0 0, .slice none 0 0, .slice none 0 0] 35)).mono HB3.out.size))
        generalize hWW : w3.alloc (.cells #[.string ⟨#[118, 97, 108]⟩, .string ⟨#[]⟩, .int .i64 4, .int .i64 0, .string s, .slice none 0 0, .slice none 0 0, .slice none 0 0, .slice none 0 0, .slice none 0 0, .slice none 0 0, .slice none 0 0] 35) = W at *
        clear hWW HB3
        have qcell : ∀ o, W.cell? ⟨w3.heap.size, o, none⟩ = (#[.string ⟨#[118, 97, 108]⟩, .string ⟨#[]⟩, .int .i64 4, .int .i64 0, .string s, .slice none 0 0, .slice none 0 0, .slice none 0 0, .slice none 0 0, .slice none 0 0, .slice none 0 0, .slice none 0 0] : Array Value)[o]? := HQ.out.cell
        go_region_with (first
          | (go_at_call 18; refine (str_c s _).mono ?_; rintro e w5 ⟨rfl, hb5⟩; have hw5 := hb5; have qcell5 : ∀ o, w5.cell? ⟨w3.heap.size, o, none⟩ = (#[.string ⟨#[118, 97, 108]⟩, .string ⟨#[]⟩, .int .i64 4, .int .i64 0, .string s, .slice none 0 0, .slice none 0 0, .slice none 0 0, .slice none 0 0, .slice none 0 0, .slice none 0 0, .slice none 0 0] : Array Value)[o]? := fun o => (Below.cell hb5 (p := ⟨w3.heap.size, o, none⟩) HQ.out.lt).trans (HQ.out.cell o); have HB5 : Hid (Below w.heap.size w w5) := Lib.hid (Below.trans HW.out (Below.trans (Below.mono (below_drew W) HW.out.size) (hb5.mono HW.out.size))); clear hb5 hw5)
          | (go_at_call 17; refine (same_text s none none none none none none 0 0 0 0 0 0 0 0 0 0 0 0 _).mono ?_; rintro e w6 ⟨rfl, hb6⟩; have HB6 := Lib.hid (HB5.out.trans (hb6.mono HB5.out.size)); clear hb6))
        all_goals (
          clear qcell
          go_wp2_with fail
          go_loopg [6, 7] (s.size) (fun gk s6 s7 wr => ∃ i : Nat, s6 = .int .i64 (posE s i) ∧ s7 = .int .i64 i ∧ i ≤ s.size ∧ gk = s.size - i ∧ Hid (Below w.heap.size w wr))
          case atStart => exact ⟨0, by rw [posE_zero]; rfl, rfl, Nat.zero_le _, rfl, HB6⟩
          case round =>
            obtain ⟨i, rfl, rfl, hi, rfl, HR⟩ := hrel
            by_cases hlt : i < s.size
            · have hj : (i : Int) < (s.size : Int) := by omega
              by_cases hc : s[i].toNat < 32 ∨ s[i].toNat = 127
              · rcases hc with hc | hc
                · have hc' : (s[i].toNat : Int) < 32 := by omega
                  go_wp2_with fail
                  go_ret
                  exact ⟨rfl, HR.out⟩
                · have hc' : ¬ ((s[i].toNat : Int) < 32) := by omega
                  have hc3 : ((s[i].toNat : Int) == 127) = true := by simp; omega
                  go_wp2_with fail
                  go_ret
                  exact ⟨rfl, HR.out⟩
              · have hc' : ¬ ((s[i].toNat : Int) < 32) := by omega
                have hc3 : ((s[i].toNat : Int) == 127) = false := by simp; omega
                have hc2 := hc
                by_cases hp : s[i].toNat = 34 ∨ s[i].toNat = 92
                · rcases hp with hq | hq
                  · have hc1 : s[i].toNat = 34 := hq
                    have hel : encB s[i] = [92, 34] := by rw [show s[i] = 34 from UInt8.toNat_inj.1 hc1]; rfl
                    obtain ⟨x0, y0⟩ := HE.out.at hlt 0 (by rw [hel]; decide)
                    obtain ⟨x1, y1⟩ := HE.out.at hlt 1 (by rw [hel]; decide)
                    simp only [Nat.add_zero, hel] at x0 y0 y1
                    have z0 : (src[posE s i]'(by omega)).toNat = 92 := by rw [show src[posE s i]'(by omega) = 92 from y0]; rfl
                    have z1 : (src[posE s i + 1]'(by omega)).toNat = 34 := by rw [show src[posE s i + 1]'(by omega) = 34 from y1]; rfl
                    have HP : Hid (posE s (i + 1) = posE s i + 1 + 1) := Lib.hid (by rw [posE_succ hlt, hel]; rfl)
                    clear y0 y1 hel hq hc hc2
                    have hbd : posE s i + 1 < src.size := x1
                    generalize posE s i = m at *
                    have b0 : (m : Int) < (src.size : Int) := by omega
                    have b1 : (m : Int) + 1 < (src.size : Int) := by omega
                    have b2 : (m : Int) ≤ 1000000000000000 := by have := HSZ.out; omega
                    go_wp2_with fail
                    have hz : ((m : Int) + 1).toNat = m + 1 := by omega
                    have hz3 : (0 : Int) ≤ (m : Int) + 1 := by omega
                    have b1 : (m : Int) + 1 < (src.size : Int) := by omega
                    go_quiet (fail)
                    have HR2 := Lib.hid (HR.out.trans ((below_drewN wr nq).mono HR.out.size))
                    go_wp2_with fail
                    go_roundg (s.size - (i + 1))
                    case measure => omega
                    case rel => exact ⟨i + 1, by have := HP.out; congr 1; omega, by go_num, by omega, rfl, HR2⟩
                  · have hc1 : s[i].toNat = 92 := hq
                    have hel : encB s[i] = [92, 92] := by rw [show s[i] = 92 from UInt8.toNat_inj.1 hc1]; rfl
                    obtain ⟨x0, y0⟩ := HE.out.at hlt 0 (by rw [hel]; decide)
                    obtain ⟨x1, y1⟩ := HE.out.at hlt 1 (by rw [hel]; decide)
                    simp only [Nat.add_zero, hel] at x0 y0 y1
                    have z0 : (src[posE s i]'(by omega)).toNat = 92 := by rw [show src[posE s i]'(by omega) = 92 from y0]; rfl
                    have z1 : (src[posE s i + 1]'(by omega)).toNat = 92 := by rw [show src[posE s i + 1]'(by omega) = 92 from y1]; rfl
                    have HP : Hid (posE s (i + 1) = posE s i + 1 + 1) := Lib.hid (by rw [posE_succ hlt, hel]; rfl)
                    clear y0 y1 hel hq hc hc2
                    have hbd : posE s i + 1 < src.size := x1
                    generalize posE s i = m at *
                    have b0 : (m : Int) < (src.size : Int) := by omega
                    have b1 : (m : Int) + 1 < (src.size : Int) := by omega
                    have b2 : (m : Int) ≤ 1000000000000000 := by have := HSZ.out; omega
                    go_wp2_with fail
                    have hz : ((m : Int) + 1).toNat = m + 1 := by omega
                    have hz3 : (0 : Int) ≤ (m : Int) + 1 := by omega
                    have b1 : (m : Int) + 1 < (src.size : Int) := by omega
                    go_quiet (fail)
                    have HR2 := Lib.hid (HR.out.trans ((below_drewN wr nq).mono HR.out.size))
                    go_wp2_with fail
                    go_roundg (s.size - (i + 1))
                    case measure => omega
                    case rel => exact ⟨i + 1, by have := HP.out; congr 1; omega, by go_num, by omega, rfl, HR2⟩
                · have hpl : plainB s[i] := ⟨by omega, by omega, by omega, by omega⟩
                  have hel := encB_plain hpl
                  obtain ⟨x0, y0⟩ := HE.out.at hlt 0 (encB_pos _)
                  simp only [Nat.add_zero, hel] at x0 y0
                  have z0 : src[posE s i]'(by omega) = s[i] := y0
                  have HP : Hid (posE s (i + 1) = posE s i + 1) := Lib.hid (by rw [posE_succ hlt, hel]; rfl)
                  have q1 : ((s[i].toNat : Int) == 34) = false := by simp; omega
                  have q2 : ((s[i].toNat : Int) == 92) = false := by simp; omega
                  clear y0 hel hp hc hc2 hpl
                  generalize posE s i = m at *
                  have b0 : (m : Int) < (src.size : Int) := by omega
                  have b2 : (m : Int) ≤ 1000000000000000 := by have := HSZ.out; omega
                  have z1 : src[m].toNat = s[i].toNat := by rw [z0]
                  clear z0
                  go_wp2_with fail
                  go_quiet (fail)
                  have HR2 := Lib.hid (HR.out.trans ((below_drewN wr nq).mono HR.out.size))
                  go_wp2_with fail
                  go_roundg (s.size - (i + 1))
                  case measure => omega
                  case rel => exact ⟨i + 1, by have := HP.out; congr 1; omega, by go_num, by omega, rfl, HR2⟩
            · obtain rfl : i = s.size := by omega
              have hsz := HE.out.size
              have e1 : ((posE s s.size : Int) == (src.size : Int) - 1) = true := by simp; omega
              have b2 := HSZ.out
              clear hsz hlt hi
              go_wp2_with fail
              go_ret
              exact ⟨rfl, HR.out⟩)
    · have k1 : ¬ ((2147483647 : Int) < (s.size : Int)) := by omega
      have k2 : (4096 : Int) < (s.size : Int) := by omega
      clear h1 h2 hT
      go_enter Tryd.func4, Tryd.ntmps4
      go_wp2_with fail
      go_ret
      exact ⟨rfl, Below.refl _ _⟩
  · have k1 : (2147483647 : Int) < (s.size : Int) := by omega
    clear h1 hT
    go_enter Tryd.func4, Tryd.ntmps4
    go_wp2_with fail
    go_ret
    exact ⟨rfl, Below.refl _ _⟩
end Go.Proofs.YtjpcdbopioblaaaDoor
