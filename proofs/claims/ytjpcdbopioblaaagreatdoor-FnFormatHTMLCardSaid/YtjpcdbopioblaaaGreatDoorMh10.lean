/- Texts of this proof laid together by a program: SpecJson2, MergeData, EncKV, SortKV, StrLawsH, Control. -/
import Derived.Test.YtjpcdbopioblaaaGreatDoorMh4
import Derived.Test.YtjpcdbopioblaaaGreatDoorMh7
import Derived.Test.YtjpcdbopioblaaaGreatDoorMh8
import Derived.Test.YtjpcdbopioblaaaGreatDoorMh9
import Derived.Maps.RangeWalk
import Derived.Maps.Ext
import Derived.Lib.SlMapMerge
import Derived.Sort.MapsRangeIn
import Derived.Sort.LotA
import Derived.Shelf.SlSortFuncK.WholeK
import Derived.Shelf.GgSortFunc.Tiny
import Derived.Deep.QuietTactic
import Derived.Laws.OwnMore
/- spec.JSON walked: objects; every tree. -/
namespace Go.Proofs.YtjpcdbopioblaaaGreatDoor
open Go.RowKit

theorem obj_text_size {ks : List ByteArray} {l : List RV} (hk : ks.length = l.length) (hg : RV.GoodL l) (hn : RV.nodesL l ≤ 400) (hb : RV.bytesL l + keysSize ks ≤ 2000) (i : Nat) : (⟨((RV.txtM ks (l.take i)).drop 1).toArray⟩ : ByteArray).size ≤ 100000 := by
  have h1 := txtM_len (ks := ks.take i) (vs := l.take i) (by rw [List.length_take, List.length_take, hk]) (goodL_take hg i)
  rw [← txtM_cutK] at h1
  have h2 := nodesL_take_le l i
  have h3 := keysSize_take_le ks i
  show (List.toArray _).size ≤ _
  rw [List.size_toArray, List.length_drop]
  omega
theorem key_le {ks : List ByteArray} {i : Nat} (h : i < ks.length) : ks[i].size ≤ keysSize ks := by
  have h1 := keysSize_take_succ h
  have h2 := keysSize_take_le ks (i + 1)
  omega
set_option maxRecDepth 100000 in
set_option maxHeartbeats 6400000 in
theorem json_map (n : Nat) (ih : JsonIH n) (h : Int) (t : ByteArray) (ks : List ByteArray) (l : List RV) (a3 a4 a5 : Option Addr) (c3 c4 c5 : Nat) (w : World) (hn : RV.nodesL l ≤ n) (hn4 : RV.nodesL l ≤ 400) (hb4 : RV.bytesL l + keysSize ks ≤ 2000) (hkl : ks.length = l.length) (hg : RV.GoodL l) (hr : RV.RepL w a5 0 l) (hrk : KeysAt w a4 0 ks) :
    Calls Tryz.prog 51 #[.agg #[.int .i64 6, .int .i64 h, .string t, .slice a3 0 c3, .slice a4 l.length c4, .slice a5 l.length c5]] w (Told 1 (123 :: (RV.txtM ks l).drop 1 ++ [125]) w) := by
  have HB := Lib.hid (fun o => one_below (w := w) o)
  have HG := Lib.hid (And.intro hg (And.intro hn (And.intro hn4 hb4)))
  have HIH := Lib.hid ih
  have HR := Lib.hid hr
  have HRK := Lib.hid hrk
  have HKL := Lib.hid hkl
  have hlen : l.length ≤ 400 := Nat.le_trans (RV.len_le l) hn4
  clear ih hg hn hn4 hb4 hr hrk hkl
  unfold Told
  go_enter Tryz.func51, Tryz.ntmps51
  go_wp2_with fail
  have hW0 : Below w.heap.size w (World.drew (w.alloc (.cells #[.int .i64 6, .int .i64 h, .string t, .slice a3 0 c3, .slice a4 l.length c4, .slice a5 l.length c5] 27))) := (HB.out _).drew
  obtain ⟨g1, k1, w1, g2, k2, w2, hr1, hr2, hb1, he⟩ := joined_runs2 [] l a3 a5 c3 c5 _ (by decide) (by omega) (by unfold RV.RepL; trivial) (RV.RepL.below hW0 HR.out)
  rw [show (World.drew (w.alloc (.cells #[.int .i64 6, .int .i64 h, .string t, .slice a3 0 c3, .slice a4 l.length c4, .slice a5 l.length c5] 27))).heap.size = w.heap.size + 1 by simp [World.drew]] at hr1
  simp only [List.length_nil, Nat.zero_add, List.nil_append] at hr1 hr2 he
  obtain ⟨ra, rc, re, hrep, hb2⟩ := he
  simp only [Ending.returned.injEq, Value.slice.injEq, true_and] at re
  obtain ⟨rfl, rfl⟩ := re
  have HR1 := Lib.hid hr1
  have HR2 := Lib.hid hr2
  have HREP := Lib.hid hrep
  have HBB := Lib.hid ((hW0).trans (hb2.mono hW0.size))
  obtain ⟨hc1, -⟩ := bcell hb1
  obtain ⟨hc2, -⟩ := bcell hb2
  have hS1 : w1.cell? ⟨w.heap.size, 3, none⟩ = some (.slice a3 0 c3) ∧ w1.cell? ⟨w.heap.size, 5, none⟩ = some (.slice a5 l.length c5) := ⟨by rw [hc1 _ _ (by simp [World.drew])]; simp, by rw [hc1 _ _ (by simp [World.drew])]; simp⟩
  have hS2 : w2.cell? ⟨w.heap.size, 3, none⟩ = some (.slice a3 0 c3) ∧ w2.cell? ⟨w.heap.size, 5, none⟩ = some (.slice a5 l.length c5) := ⟨by rw [hc2 _ _ (by simp [World.drew])]; simp, by rw [hc2 _ _ (by simp [World.drew])]; simp⟩
  have HC0 : Hid (∀ wx, Below w2.heap.size w2 wx → wx.cell? ⟨w.heap.size, 0, none⟩ = some (.int .i64 6) ∧ wx.cell? ⟨w.heap.size, 4, none⟩ = some (.slice a4 l.length c4)) := Lib.hid fun wx hx => by
    have h1 : w2.cell? ⟨w.heap.size, 0, none⟩ = some (.int .i64 6) := by rw [hc2 _ _ (by simp [World.drew])]; simp
    have h2 : w2.cell? ⟨w.heap.size, 4, none⟩ = some (.slice a4 l.length c4) := by rw [hc2 _ _ (by simp [World.drew])]; simp
    exact ⟨(hx.cell (p := ⟨w.heap.size, 0, none⟩) (cell_lt h1)).trans h1, (hx.cell (p := ⟨w.heap.size, 4, none⟩) (cell_lt h2)).trans h2⟩
  clear hr1 hr2 hrep hb1 hb2 hc1 hc2 hW0
  go_region_held3 (fun W => W.cell? ⟨w.heap.size, 3, none⟩ = some (.slice a3 0 c3) ∧ W.cell? ⟨w.heap.size, 5, none⟩ = some (.slice a5 l.length c5)) (first | assumption | (constructor <;> simp)) (first
    | (refine step_append_run rfl (.tmp 64) (.tmp 66) 22 rfl (.slice (some ⟨w.heap.size + 1, 0, none⟩) 0 0) (.slice a3 0 c3) rfl rfl _ _ HR1.out ?_)
    | (refine step_append_run rfl (.tmp 67) (.tmp 69) 22 rfl (.slice (some ⟨g1, 0, none⟩) 0 k1) (.slice a5 l.length c5) rfl rfl _ _ HR2.out ?_))
  clear hS1 hS2
  go_wp2_with fail
  go_loopg [4, 72] l.length (fun gk s4 s72 wr => ∃ i : Nat, s4 = .string ⟨((RV.txtM ks (l.take i)).drop 1).toArray⟩ ∧ s72 = .int .i64 i ∧ i ≤ l.length ∧ gk = l.length - i ∧ Hid (Below w2.heap.size w2 wr))
  case atStart => exact ⟨0, by simp [RV.txtM], rfl, Nat.zero_le _, rfl, Lib.hid (Below.refl _ _)⟩
  case round =>
    obtain ⟨i, rfl, rfl, hi, rfl, HK⟩ := hrel
    obtain ⟨hcb, hck⟩ := HC0.out wr HK.out
    have HC2 := fun o => HC0.out (wr.alloc o) (HK.out.trans ((one_below (w := wr) o).mono HK.out.size))
    have hcb2 := fun o => (HC2 o).1
    have hck2 := fun o => (HC2 o).2
    clear HC2
    have hts := obj_text_size HKL.out HG.out.1 HG.out.2.2.1 HG.out.2.2.2 i
    by_cases hlt : i < l.length
    · have hj : (i : Int) < (l.length : Int) := by omega
      have hlk : i < ks.length := by have := HKL.out; omega
      obtain ⟨kb, ko, rfl, -, gk⟩ := (HRK.out.below HBB.out |>.below HK.out).get i hlk
      simp only [Nat.zero_add] at gk
      have gk2 := fun o => ((one_below (w := wr) o).cell (p := ⟨kb, ko + i, none⟩) (cell_lt gk)).trans gk
      have HKS := Lib.hid (key_le hlk)
      have HQ := Lib.hid (fun wx => quoted_any ks[i] wx (by have := HKS.out; have := HG.out.2.2.2; omega))
      obtain ⟨vb, vo, d0, d1, d2, d3, d4, d5, eab, e0, e1, e2, e3, e4, e5, hrz⟩ := (HREP.out wr HK.out).get i hlt
      simp only [Option.some.injEq, Addr.mk.injEq, and_true] at eab
      obtain ⟨rfl, rfl⟩ := eab
      simp only [Nat.zero_add] at e0 e1 e2 e3 e4 e5
      have HZ := Lib.hid (fun wx (hx : Below wr.heap.size wr wx) => RV.Rep.below hx hrz)
      obtain ⟨zk, zh, zt, zal, znl, zcl, zak, znk, zck, zav, znv, zcv, rfl, rfl, rfl, rfl, rfl, rfl⟩ := hrz.shape
      have HX := Lib.hid (And.intro (HG.out.1.get i hlt) (And.intro (Nat.le_trans (RV.nodes_le hlt) HG.out.2.1) (And.intro (Nat.le_trans (RV.nodes_le hlt) HG.out.2.2.1) (Nat.le_trans (bytes_le_L hlt) (Nat.le_trans (Nat.le_add_right _ _) HG.out.2.2.2)))))
      have HTX := Lib.hid (txtM_take (ks := ks) (l := l) hlt hlk)
      have hzs := txt_len HX.out.1
      have hzs2 : l[i].txt.length ≤ 100000 := by have := HX.out.2.2.1; have := HX.out.2.2.2; omega
      have hqs : (strT ks[i]).length ≤ 100000 := by have h1 := strT_len ks[i]; have h2 := HKS.out; have h3 := HG.out.2.2.2; omega
      generalize hot : (⟨((RV.txtM ks (l.take i)).drop 1).toArray⟩ : ByteArray) = ot at *
      have HOT := Lib.hid hot
      have hosz := hts
      clear hrz hi hzs hot hts gk
      have hone : (⟨#[44]⟩ : ByteArray).size = 1 ∧ (⟨#[58]⟩ : ByteArray).size = 1 := ⟨rfl, rfl⟩
      have hqz : (⟨(strT ks[i]).toArray⟩ : ByteArray).size = (strT ks[i]).length := by show (List.toArray _).size = _; simp
      have htz : (⟨l[i].txt.toArray⟩ : ByteArray).size = l[i].txt.length := by show (List.toArray _).size = _; simp
      by_cases h0 : i = 0
      · have hi0 : ¬ (0 : Int) < (i : Int) := by omega
        have hcq : ¬ 9223372036854775807 < (⟨(strT ks[i]).toArray⟩ : ByteArray).size + (⟨#[58]⟩ : ByteArray).size := by omega
        have hcp : ¬ 9223372036854775807 < (ot).size + ((⟨(strT ks[i]).toArray⟩ : ByteArray) ++ (⟨#[58]⟩ : ByteArray)).size := by simp only [ByteArray.size_append]; omega
        have hcs : ¬ 9223372036854775807 < ((ot) ++ ((⟨(strT ks[i]).toArray⟩ : ByteArray) ++ (⟨#[58]⟩ : ByteArray))).size + (⟨l[i].txt.toArray⟩ : ByteArray).size := by simp only [ByteArray.size_append]; omega
        have HTB := Lib.hid (show (⟨((RV.txtM ks (l.take (i + 1))).drop 1).toArray⟩ : ByteArray) = (ot) ++ ((⟨(strT ks[i]).toArray⟩ : ByteArray) ++ (⟨#[58]⟩ : ByteArray)) ++ ⟨l[i].txt.toArray⟩ from by rw [HTX.out, ← HOT.out, if_pos h0]; exact ByteArray.ext (by simp))
        generalize hqq : (⟨(strT ks[i]).toArray⟩ : ByteArray) = qq at *
        have HQQ := Lib.hid hqq
        clear h0 HTX hzs2 hqs hqz htz hone hqq
        go_wp2_with fail
        refine (HQ.out _).mono ?_
        rintro e w4 ⟨q', how, rfl, hh, hb⟩
        have HB4 := Lib.hid ((one_below (w := wr) _).trans (hb.mono (one_below (w := wr) _).size))
        obtain ⟨hq6, -⟩ := bcell hb
        have hc6 := fun o => hq6 wr.heap.size o (by simp)
        clear hb hq6 hcb hck hcb2 hck2
        obtain ⟨hcb, hck⟩ := HC0.out w4 (HK.out.trans (HB4.out.mono HK.out.size))
        rcases hh with ⟨rfl, hqe⟩ | ⟨rfl, hsz⟩
        · obtain rfl : q' = qq := hqe.trans HQQ.out
          clear hqe
          go_wp2_with fail
          refine (HIH.out l[i] _ _ HX.out.2.1 HX.out.1 HX.out.2.2.1 HX.out.2.2.2 (HZ.out _ HB4.out)).mono ?_
          rintro e w5 ⟨t', how, rfl, hh, hb⟩
          have HB5 := Lib.hid (HK.out.trans ((HB4.out.trans (hb.mono HB4.out.size)).mono HK.out.size))
          clear hb
          rcases hh with ⟨rfl, rfl⟩ | ⟨rfl, hsz⟩
          · go_wp2_with fail
            go_roundg (l.length - (i + 1))
            case measure => omega
            case rel => exact ⟨i + 1, by rw [HTB.out], by go_num, by omega, rfl, HB5⟩
          · go_wp2_with fail
            go_ret2
            exact ⟨_, _, rfl, .inr ⟨rfl, by decide⟩, HBB.out.trans (HB5.out.mono HBB.out.size)⟩
        · go_wp2_with fail
          go_ret2
          exact ⟨_, _, rfl, .inr ⟨rfl, by decide⟩, HBB.out.trans ((HK.out.trans (HB4.out.mono HK.out.size)).mono HBB.out.size)⟩
      · have hi0 : (0 : Int) < (i : Int) := by omega
        have hcc1 : ¬ 9223372036854775807 < ot.size + (⟨#[44]⟩ : ByteArray).size := by omega
        have hcq : ¬ 9223372036854775807 < (⟨(strT ks[i]).toArray⟩ : ByteArray).size + (⟨#[58]⟩ : ByteArray).size := by omega
        have hcp : ¬ 9223372036854775807 < (ot ++ (⟨#[44]⟩ : ByteArray)).size + ((⟨(strT ks[i]).toArray⟩ : ByteArray) ++ (⟨#[58]⟩ : ByteArray)).size := by simp only [ByteArray.size_append]; omega
        have hcs : ¬ 9223372036854775807 < ((ot ++ (⟨#[44]⟩ : ByteArray)) ++ ((⟨(strT ks[i]).toArray⟩ : ByteArray) ++ (⟨#[58]⟩ : ByteArray))).size + (⟨l[i].txt.toArray⟩ : ByteArray).size := by simp only [ByteArray.size_append]; omega
        have HTB := Lib.hid (show (⟨((RV.txtM ks (l.take (i + 1))).drop 1).toArray⟩ : ByteArray) = (ot ++ (⟨#[44]⟩ : ByteArray)) ++ ((⟨(strT ks[i]).toArray⟩ : ByteArray) ++ (⟨#[58]⟩ : ByteArray)) ++ ⟨l[i].txt.toArray⟩ from by rw [HTX.out, ← HOT.out, if_neg h0]; exact ByteArray.ext (by simp))
        generalize hqq : (⟨(strT ks[i]).toArray⟩ : ByteArray) = qq at *
        have HQQ := Lib.hid hqq
        clear h0 HTX hzs2 hqs hqz htz hone hqq
        go_wp2_with fail
        refine (HQ.out _).mono ?_
        rintro e w4 ⟨q', how, rfl, hh, hb⟩
        have HB4 := Lib.hid ((one_below (w := wr) _).trans (hb.mono (one_below (w := wr) _).size))
        obtain ⟨hq6, -⟩ := bcell hb
        have hc6 := fun o => hq6 wr.heap.size o (by simp)
        clear hb hq6 hcb hck hcb2 hck2
        obtain ⟨hcb, hck⟩ := HC0.out w4 (HK.out.trans (HB4.out.mono HK.out.size))
        rcases hh with ⟨rfl, hqe⟩ | ⟨rfl, hsz⟩
        · obtain rfl : q' = qq := hqe.trans HQQ.out
          clear hqe
          go_wp2_with fail
          refine (HIH.out l[i] _ _ HX.out.2.1 HX.out.1 HX.out.2.2.1 HX.out.2.2.2 (HZ.out _ HB4.out)).mono ?_
          rintro e w5 ⟨t', how, rfl, hh, hb⟩
          have HB5 := Lib.hid (HK.out.trans ((HB4.out.trans (hb.mono HB4.out.size)).mono HK.out.size))
          clear hb
          rcases hh with ⟨rfl, rfl⟩ | ⟨rfl, hsz⟩
          · go_wp2_with fail
            go_roundg (l.length - (i + 1))
            case measure => omega
            case rel => exact ⟨i + 1, by rw [HTB.out], by go_num, by omega, rfl, HB5⟩
          · go_wp2_with fail
            go_ret2
            exact ⟨_, _, rfl, .inr ⟨rfl, by decide⟩, HBB.out.trans (HB5.out.mono HBB.out.size)⟩
        · go_wp2_with fail
          go_ret2
          exact ⟨_, _, rfl, .inr ⟨rfl, by decide⟩, HBB.out.trans ((HK.out.trans (HB4.out.mono HK.out.size)).mono HBB.out.size)⟩
    · obtain rfl : i = l.length := by omega
      have hcc1 : ¬ 9223372036854775807 < (⟨#[123]⟩ : ByteArray).size + (⟨((RV.txtM ks (l.take l.length)).drop 1).toArray⟩ : ByteArray).size := by
        have : (⟨#[123]⟩ : ByteArray).size = 1 := rfl
        omega
      have hcc2 : ¬ 9223372036854775807 < ((⟨#[123]⟩ : ByteArray) ++ (⟨((RV.txtM ks (l.take l.length)).drop 1).toArray⟩ : ByteArray)).size + (⟨#[125]⟩ : ByteArray).size := by
        have h1 : (⟨#[123]⟩ : ByteArray).size = 1 := rfl
        have h2 : (⟨#[125]⟩ : ByteArray).size = 1 := rfl
        rw [ByteArray.size_append]
        omega
      have HTB := Lib.hid (show (⟨#[123]⟩ : ByteArray) ++ ⟨((RV.txtM ks (l.take l.length)).drop 1).toArray⟩ ++ ⟨#[125]⟩ = ⟨(123 :: (RV.txtM ks l).drop 1 ++ [125]).toArray⟩ from by rw [List.take_length]; exact ByteArray.ext (by simp))
      generalize (⟨((RV.txtM ks (l.take l.length)).drop 1).toArray⟩ : ByteArray) = ot at *
      clear hts hi
      go_wp2_with fail
      go_ret2
      exact ⟨_, _, rfl, .inl ⟨rfl, HTB.out⟩, HBB.out.trans (HK.out.mono HBB.out.size)⟩
theorem json_all : ∀ n, JsonIH n := by
  intro n
  induction n with
  | zero => intro x v w hn; have := x.nodes_pos; omega
  | succ n ih =>
    intro x v w hn hg hn4 hb4 hr
    obtain ⟨k, h, t, l, ks, vs⟩ := x
    obtain ⟨x3, x4, x5, x6, k0, k6, -⟩ := hg.rest
    unfold RV.Good at hg
    obtain ⟨-, -, -, -, -, -, gkv, gh1, gh2, -, -, gl, -, -, gv⟩ := hg
    unfold RV.nodes at hn hn4
    unfold RV.bytes at hb4
    unfold RV.Rep at hr
    obtain ⟨al, cl, ak, ck, av, cv, rfl, -, -, -, -, -, -, hrl, hrk, hrv⟩ := hr
    have hks : keysSize ks ≤ 2000 := by omega
    by_cases h3 : k = 3
    · subst h3
      exact json_num h t al ak av _ _ _ cl ck cv w gh1 gh2
    by_cases h4 : k = 4
    · subst h4
      exact json_text h t al ak av _ _ _ cl ck cv w (by omega)
    by_cases h5 : k = 5
    · subst h5
      obtain ⟨rfl, rfl⟩ := x6 (by decide)
      exact json_list n ih h t l al ak av cl ck cv w (by omega) (by omega) (by omega) gl hrl
    by_cases h6 : k = 6
    · subst h6
      obtain rfl := x5 (by decide)
      rw [gkv]
      exact json_map n ih h t ks vs al ak av cl ck cv w (by omega) (by omega) (by omega) gkv gv hrv hrk
    have hk : k = 0 ∨ k = 1 ∨ k = 2 := by omega
    have e : (RV.mk k h t l ks vs).txt = if k = 0 then [110, 117, 108, 108] else if k = 1 then [102, 97, 108, 115, 101] else [116, 114, 117, 101] := by
      unfold RV.txt
      rcases hk with rfl | rfl | rfl <;> rfl
    rw [e]
    exact json_word k h t _ _ _ ⟨_, _, _, rfl⟩ ⟨_, _, _, rfl⟩ ⟨_, _, _, rfl⟩ w hk
theorem json_any (x : RV) (v : Value) (w : World) (hg : x.Good) (hn : x.nodes ≤ 400) (hb : x.bytes ≤ 2000) (hr : x.Rep w v) : Calls Tryz.prog 51 #[v] w (Told 1 x.txt w) :=
  json_all x.nodes x v w (Nat.le_refl _) hg hn hb hr
end Go.Proofs.YtjpcdbopioblaaaGreatDoor

/- Products of objects: what the map holds while the second one's entries are laid in. No walk. -/
namespace Go.Proofs.YtjpcdbopioblaaaGreatDoor
open Go.RowKit Go.WideMaps Go.Maps

/-- A key as the map's datum has it. -/
def kS (key : ByteArray) : Lit := .string key.data.toList
theorem kS_inj {a b : ByteArray} (h : kS a = kS b) : a = b := by
  unfold kS at h
  injection h with h
  exact ByteArray.ext (Array.ext' h)
theorem kS_key (key : ByteArray) : WideAt.IsKeyLit (kS key) := trivial
theorem has_mapD {ks : List ByteArray} {xs : List Value} (hl : xs.length = ks.length) (k : Lit) : Maps.has (mapD ks xs) k = true ↔ ∃ key ∈ ks, k = kS key := by
  unfold mapD
  rw [Maps.has_eq, List.any_eq_true]
  constructor
  · rintro ⟨p, hp, hs⟩
    obtain ⟨q, hq, rfl⟩ := List.mem_map.1 hp
    refine ⟨q.1, (List.of_mem_zip hq).1, ?_⟩
    by_cases e : k = kS q.1
    · exact e
    · have := Maps.sameKey_ne (a := (Lit.string q.1.data.toList)) (b := k) (fun e2 => e e2.symm)
      rw [this] at hs
      cases hs
  · rintro ⟨key, hk, rfl⟩
    obtain ⟨i, hi, rfl⟩ := List.getElem_of_mem hk
    refine ⟨(.string ks[i].data.toList, .held (xs[i]'(by omega))), List.mem_map.2 ⟨(ks[i], xs[i]'(by omega)), ?_, rfl⟩, WideAt.sameKey_self (kS_key ks[i])⟩
    rw [List.mem_iff_getElem]
    exact ⟨i, by simp; omega, by simp⟩
theorem has_mapD_key {ks : List ByteArray} {xs : List Value} (hl : xs.length = ks.length) (key : ByteArray) : Maps.has (mapD ks xs) (kS key) = true ↔ key ∈ ks := by
  rw [has_mapD hl]
  constructor
  · rintro ⟨k, hk, e⟩; rw [kS_inj e]; exact hk
  · intro h; exact ⟨key, h, rfl⟩

/-- What stands at a key of both maps, or of the second one alone. -/
def Zb (N : Nat) (a b : RV) (key : ByteArray) (z : RV) : Prop := ∀ y, b.AtR key y → (∀ x, a.AtR key x → (x.kd = 6 ∧ y.kd = 6 → MergeN N x y z) ∧ (¬ (x.kd = 6 ∧ y.kd = 6) → z = y)) ∧ (key ∉ a.keys → z = y)
theorem list_choose {α : Type} : ∀ (n : Nat) (P : Nat → α → Prop), (∀ i, i < n → ∃ z, P i z) → ∃ zs : List α, zs.length = n ∧ ∀ i (h : i < zs.length), P i zs[i]
  | 0, _, _ => ⟨[], rfl, fun i h => absurd h (by simp)⟩
  | n + 1, P, h => by
    obtain ⟨z, hz⟩ := h 0 (by omega)
    obtain ⟨zs, hl, hp⟩ := list_choose n (fun i z => P (i + 1) z) fun i hi => h (i + 1) (by omega)
    refine ⟨z :: zs, by simp [hl], fun i hi => ?_⟩
    cases i with
    | zero => exact hz
    | succ i => exact hp i (by simpa using hi)
/-- While the second map's entries are laid in: those not 'left'. -/
structure MJ (N : Nat) (a b : RV) (xa xb : List Value) (T : Nat → Prop) (wr : World) (Dm : DataW Value) (left : Lit → Bool) : Prop where
  has : ∀ k, Maps.has Dm k = (Maps.has (mapD a.keys xa) k || (Maps.has (mapD b.keys xb) k && !left k))
  new : ∀ key, key ∈ b.keys → left (kS key) = false → ∃ v z, (∀ zd, Dm.atKey (kS key) zd = .held v) ∧ z.GoS wr T v ∧ Zb N a b key z
  old : ∀ key, key ∈ a.keys → ¬ (key ∈ b.keys ∧ left (kS key) = false) → ∀ zd, Dm.atKey (kS key) zd = (mapD a.keys xa).atKey (kS key) zd
theorem MJ.start {N : Nat} {a b : RV} {xa xb : List Value} {T : Nat → Prop} {wr : World} (hb : xb.length = b.keys.length) : MJ N a b xa xb T wr (mapD a.keys xa) (Maps.has (mapD b.keys xb)) :=
  ⟨fun k => by cases Maps.has (mapD a.keys xa) k <;> cases Maps.has (mapD b.keys xb) k <;> rfl, (fun key hk hl => by
    have := (has_mapD_key hb key).2 hk
    rw [this] at hl
    exact absurd hl (by decide)), fun key _ _ zd => rfl⟩
theorem MJ.kept {N : Nat} {a b : RV} {xa xb : List Value} {T : Nat → Prop} {wr w' : World} {Dm : DataW Value} {left : Lit → Bool} (h : MJ N a b xa xb T wr Dm left) (hs : SameOn T wr w') : MJ N a b xa xb T w' Dm left :=
  ⟨h.has, fun key hk hl => by
    obtain ⟨v, z, h1, h2, h3⟩ := h.new key hk hl
    exact ⟨v, z, h1, h2.keep hs (fun _ h _ => h), h3⟩, h.old⟩
theorem MJ.step {N : Nat} {a b : RV} {xa xb : List Value} {T : Nat → Prop} {wr : World} {Dm : DataW Value} {left : Lit → Bool} {key : ByteArray} {v : Value} {z : RV} (hb : xb.length = b.keys.length) (h : MJ N a b xa xb T wr Dm left) (hm : Maps.IsMap Dm) (hk : key ∈ b.keys) (hz : z.GoS wr T v) (hZ : Zb N a b key z) :
    MJ N a b xa xb T wr (Dm.put (kS key) (.held v)) (fun q => left q && !q.sameKey (kS key)) := by
  have hbk := (has_mapD_key hb key).2 hk
  refine ⟨fun k => ?_, fun key' hk' hl' => ?_, fun key' hk' hn zd => ?_⟩
  · by_cases e : k = kS key
    · subst e
      rw [Maps.has_put_same hm (kS_key key), hbk, WideAt.sameKey_self (kS_key key)]
      simp
    · rw [Maps.has_put_other e, h.has k, Maps.sameKey_ne e]
      simp
  · by_cases e : key' = key
    · subst e
      exact ⟨v, z, fun zd => Maps.atKey_put_same hm (kS_key key') _ _, hz, hZ⟩
    · have e2 : kS key' ≠ kS key := fun x => e (kS_inj x)
      simp only [Maps.sameKey_ne e2, Bool.not_false, Bool.and_true] at hl'
      obtain ⟨v', z', h1, h2, h3⟩ := h.new key' hk' hl'
      exact ⟨v', z', fun zd => by rw [Maps.atKey_put_other e2]; exact h1 zd, h2, h3⟩
  · by_cases e : key' = key
    · subst e
      exact absurd ⟨hk, by simp [WideAt.sameKey_self (kS_key key')]⟩ hn
    · have e2 : kS key' ≠ kS key := fun x => e (kS_inj x)
      simp only [Maps.sameKey_ne e2, Bool.not_false, Bool.and_true] at hn
      rw [Maps.atKey_put_other e2]
      exact h.old key' hk' hn zd
theorem mapD_list : ∀ es : List (Lit × DataW Value), es.Pairwise (fun p q => p.1.before q.1 = true) → (∀ p ∈ es, ∃ key x, p = (kS key, .held x)) → ∃ ks xs, DataW.map es = mapD ks xs ∧ KeysUp ks ∧ xs.length = ks.length
  | [], _, _ => ⟨[], [], rfl, fun i hi => absurd hi (by simp), rfl⟩
  | p :: es, hp, he => by
    obtain ⟨hp1, hp2⟩ := List.pairwise_cons.1 hp
    obtain ⟨ks, xs, e, hu, hl⟩ := mapD_list es hp2 fun q hq => he q (List.mem_cons_of_mem _ hq)
    obtain ⟨key, x, rfl⟩ := he p (by simp)
    unfold mapD at e
    injection e with e
    refine ⟨key :: ks, x :: xs, by unfold mapD; rw [e]; rfl, fun i hi => ?_, by simp [hl]⟩
    cases i with
    | zero =>
      have hi0 : 0 < ks.length := by simp at hi; omega
      have h1 := hp1 (kS ks[0], .held (xs[0]'(by omega))) (by rw [e]; refine List.mem_map.2 ⟨(ks[0], xs[0]'(by omega)), ?_, rfl⟩; rw [List.mem_iff_getElem]; exact ⟨0, by simp; omega, by simp⟩)
      have h2 : bytesBefore key.data.toList ks[0].data.toList = true := h1
      rw [before_eq] at h2
      show Op.bytesLess key.toList ks[0].toList = true
      rw [ByteArray.toList_eq, ByteArray.toList_eq]
      exact h2
    | succ i => exact hu i (by simpa using hi)
theorem keyOf_text {P : Program} {k : TypeId} (hk : P.underlying k = some .string) {key : Value} {kl : Lit} (h : keyOf P k key = some kl) : ∃ s, key = .string s ∧ kl = kS s ∧ s.size ≤ maxLen := by
  cases key <;> simp [keyOf, hk, mapKey] at h
  exact ⟨_, rfl, h.2.symm, h.1⟩
theorem heldR_inv {v : Value} {y : DataW Value × List MemPlace} (h : heldR v = some y) : y.1 = .held v := by
  unfold heldR at h
  injection h with h
  rw [← h]
/-- A map of texts, by its keys and its elements. -/
theorem mapD_of {w : World} {r n : Nat} {D : DataW Value} (h : w.ownsMap Tryz.prog 9 heldR r n D) : ∃ ks xs, D = mapD ks xs ∧ KeysUp ks ∧ xs.length = ks.length := by
  have hc := h.canon (string_keyed Tryz.underlying9)
  obtain ⟨es0, clock, _, F, _, hD⟩ := h
  obtain ⟨es, e, hp, _⟩ := hc
  rw [e]
  refine mapD_list es hp fun p hp => ?_
  rw [hD] at e
  injection e with e
  rw [← e] at hp
  obtain ⟨x, hx, rfl⟩ := List.mem_map.1 (mem_sorted.1 hp)
  obtain ⟨y, hy⟩ := F.reads x hx
  rw [WideElems.rg_of hy]
  obtain ⟨s, hs0, hs, hs1⟩ := keyOf_text Tryz.underlying9 (WideElems.rd_key hy)
  have hv : ∃ v, y.2 = .held v := by
    unfold WideElems.rd at hy
    simp only [Option.bind_eq_some_iff, Option.map_eq_some_iff] at hy
    obtain ⟨q1, _, d, hd, hyd⟩ := hy
    exact ⟨x.val, by rw [← hyd]; exact heldR_inv hd⟩
  obtain ⟨v, hv⟩ := hv
  exact ⟨s, v, Prod.ext hs hv⟩
/-- All laid in: the product. -/
theorem MJ.done {N : Nat} {a b : RV} {xa xb : List Value} {T : Nat → Prop} {wr : World} {r n : Nat} {Dm : DataW Value} {left : Lit → Bool} (ha : a.Good) (hxa : xa.length = a.keys.length) (hxb : xb.length = b.keys.length) (hga : RV.GoSV wr T xa a.vals) (h : MJ N a b xa xb T wr Dm left) (hl : ∀ k, left k = false)
    (hm : wr.ownsMap Tryz.prog 9 heldR r n Dm) {T' : Nat → Prop} (hT : ∀ k, T k → T' k) (hr : T' r) (hn : n ≤ 1000000) : ∃ c, MergeN (N + 1) a b c ∧ c.kd = 6 ∧ c.GoS wr T' (.iface 90 (.map (some r))) := by
  obtain ⟨ks, xs, rfl, hu, hlx⟩ := mapD_of hm
  have hmem : ∀ key, key ∈ ks ↔ key ∈ a.keys ∨ key ∈ b.keys := fun key => by
    rw [← has_mapD_key hlx, h.has, hl, ← has_mapD_key hxa, ← has_mapD_key hxb]
    simp
  have hel : ∀ i (hi : i < ks.length), ∃ z : RV, z.GoS wr T (xs[i]'(by omega)) ∧ (ks[i] ∈ b.keys → Zb N a b ks[i] z) ∧ (ks[i] ∉ b.keys → ∀ x, a.AtR ks[i] x → z = x) := fun i hi => by
    have hat := mapD_get ks xs hlx hu i hi (by omega) .nil
    by_cases hkb : ks[i] ∈ b.keys
    · obtain ⟨v, z, h1, h2, h3⟩ := h.new ks[i] hkb (hl _)
      have h1' := h1 .nil
      unfold kS at h1'
      rw [hat] at h1'
      injection h1' with h1'
      subst h1'
      exact ⟨z, h2, fun _ => h3, fun h => absurd hkb h⟩
    · have hka : ks[i] ∈ a.keys := ((hmem _).1 (List.getElem_mem hi)).resolve_right hkb
      obtain ⟨j, hj, hje⟩ := List.getElem_of_mem hka
      have h1 := h.old ks[i] hka (fun x => hkb x.1) .nil
      have h2 := mapD_get a.keys xa hxa ha.keys.1 j hj (by omega) .nil
      unfold kS at h1
      rw [hat, ← hje, h2] at h1
      injection h1 with h1
      have hjv : j < a.vals.length := by rw [← ha.keys.2.1]; exact hj
      refine ⟨a.vals[j], by rw [h1]; exact hga.get j hjv (by omega), fun h => absurd h hkb, fun _ x hx => RV.AtR.one ha ⟨j, hj, hjv, hje, rfl⟩ hx⟩
  have hP : ∀ i, i < ks.length → ∃ z : RV, ∀ (hi : i < ks.length) (hx : i < xs.length), z.GoS wr T xs[i] ∧ (ks[i] ∈ b.keys → Zb N a b ks[i] z) ∧ (ks[i] ∉ b.keys → ∀ x, a.AtR ks[i] x → z = x) := fun i hi => by
    obtain ⟨z, hz⟩ := hel i hi
    exact ⟨z, fun _ _ => hz⟩
  obtain ⟨zs, hzl, hz⟩ := list_choose ks.length _ hP
  refine ⟨.mk 6 0 ByteArray.empty [] ks zs, ⟨ks, zs, rfl, hu, hzl.symm, hmem, fun i hk hi => ⟨fun y hy => (hz i hi hk (by omega)).2.1 hy.mem y hy, (hz i hi hk (by omega)).2.2⟩⟩, rfl, ?_⟩
  unfold RV.GoS
  refine .inr (.inr (.inr (.inr (.inr (.inr ⟨rfl, r, n, xs, rfl, hr, hn, hm, hlx, ?_⟩)))))
  exact RV.GoSV.of zs xs (by omega) fun j hj hj' => (hz j hj (by omega) hj').1.keep (fun _ _ _ => rfl) (fun k h _ => hT k h)
end Go.Proofs.YtjpcdbopioblaaaGreatDoor

/- A map's entries laid into a row of pairs and sorted by their keys: plain. -/
namespace Go.Proofs.YtjpcdbopioblaaaGreatDoor
open Go.RowKit Go.WideMaps Go.Maps

abbrev KV := ByteArray × Value
/-- By the key. -/
def ltKV (a b : KV) : Bool := Op.bytesLess a.1.toList b.1.toList
/-- Entries so far, and those to come. -/
def KVInv (ks : List ByteArray) (xs : List Value) (left : Lit → Bool) (E : List KV) : Prop :=
  ∃ R : List KV, (E ++ R).Perm (ks.zip xs) ∧ ∀ k ∈ ks, (left (kS k) = true ↔ k ∈ R.map Prod.fst)
theorem zip_fst {ks : List ByteArray} {xs : List Value} (h : xs.length = ks.length) : (ks.zip xs).map Prod.fst = ks := by
  rw [List.map_fst_zip]
  omega
theorem KVInv.start {ks : List ByteArray} {xs : List Value} (h : xs.length = ks.length) : KVInv ks xs (Maps.has (mapD ks xs)) [] :=
  ⟨ks.zip xs, List.Perm.refl _, fun k hk => ⟨fun _ => by rw [zip_fst h]; exact hk, fun _ => (has_mapD_key h k).2 hk⟩⟩
theorem KVInv.step {ks : List ByteArray} {xs : List Value} {left : Lit → Bool} {E : List KV} {key : ByteArray} {c : Value} (h : KVInv ks xs left E) (hu : KeysUp ks) (hx : xs.length = ks.length) (hk : key ∈ ks) (hl : left (kS key) = true) (hc : ∀ z, (mapD ks xs).atKey (kS key) z = .held c) :
    KVInv ks xs (fun q => left q && !q.sameKey (kS key)) (E ++ [(key, c)]) := by
  obtain ⟨R, hp, hR⟩ := h
  obtain ⟨⟨k', c'⟩, hm, e⟩ := List.mem_map.1 ((hR key hk).1 hl)
  subst e
  have hz : (k', c') ∈ ks.zip xs := hp.subset (List.mem_append_right _ hm)
  obtain ⟨i, hi, e⟩ := List.getElem_of_mem hz
  have hik : i < ks.length := by simp at hi; omega
  have hix : i < xs.length := by omega
  rw [List.getElem_zip] at e
  injection e with e1 e2
  have h1 := mapD_get ks xs hx hu i hik hix .nil
  have h2 := hc .nil
  unfold kS at h2
  rw [e1] at h1
  rw [h1] at h2
  injection h2 with h2
  have e3 : c' = c := by rw [← e2, h2]
  subst e3
  obtain ⟨R1, R2, rfl⟩ := List.append_of_mem hm
  have hnd : ((E ++ (R1 ++ (k', c') :: R2)).map Prod.fst).Nodup := by
    rw [(hp.map Prod.fst).nodup_iff, zip_fst hx]
    exact hu.nodup
  have hno : k' ∉ (R1 ++ R2).map Prod.fst := by
    rw [List.map_append, List.nodup_append] at hnd
    have h3 := hnd.2.1
    rw [List.map_append, List.map_cons] at h3
    rw [List.map_append]
    intro h4
    have h5 := (List.perm_middle (a := k') (l₁ := R1.map Prod.fst) (l₂ := R2.map Prod.fst)).nodup_iff.1 h3
    exact (List.nodup_cons.1 h5).1 h4
  refine ⟨R1 ++ R2, ?_, fun k hk' => ?_⟩
  · refine List.Perm.trans ?_ hp
    rw [List.append_assoc, List.singleton_append]
    exact (List.perm_middle.symm).append_left E
  · rw [Bool.and_eq_true, hR k hk']
    have hs : ((!(kS k).sameKey (kS k')) = true) ↔ k ≠ k' := by
      constructor
      · rintro h e
        rw [e, WideAt.sameKey_self (kS_key k')] at h
        cases h
      · intro h
        rw [Maps.sameKey_ne fun e => h (kS_inj e)]
        rfl
    rw [hs]
    constructor
    · rintro ⟨h6, h7⟩
      rw [List.map_append, List.map_cons, List.mem_append, List.mem_cons] at h6
      rw [List.map_append, List.mem_append]
      rcases h6 with h6 | h6 | h6
      · exact .inl h6
      · exact absurd h6 h7
      · exact .inr h6
    · intro h6
      refine ⟨?_, fun e => hno (e ▸ h6)⟩
      rw [List.map_append, List.mem_append] at h6
      rw [List.map_append, List.map_cons, List.mem_append, List.mem_cons]
      rcases h6 with h6 | h6
      · exact .inl h6
      · exact .inr (.inr h6)
theorem KVInv.done {ks : List ByteArray} {xs : List Value} {left : Lit → Bool} {E : List KV} (h : KVInv ks xs left E) (hx : xs.length = ks.length) (hl : ∀ k, left k = false) : E.Perm (ks.zip xs) := by
  obtain ⟨R, hp, hR⟩ := h
  cases R with
  | nil => simpa using hp
  | cons p R =>
    have hz : p.1 ∈ ks := by
      rw [← zip_fst hx]
      exact List.mem_map_of_mem (hp.subset (by simp))
    have := (hR p.1 hz).2 (by simp)
    rw [hl] at this
    cases this
theorem sorted_unique_KV : ∀ {l m : List KV}, l.Perm m → l.Pairwise (fun a b => ltKV b a = false) → m.Pairwise (fun a b => ltKV a b = true) → l = m
  | l, [], hp, _, _ => hp.eq_nil
  | [], b :: m, hp, _, _ => absurd hp.symm.eq_nil (by simp)
  | a :: l, b :: m, hp, hl, hm => by
    have hab : a = b := by
      have h1 : a ∈ b :: m := hp.subset (by simp)
      have h2 : b ∈ a :: l := hp.symm.subset (by simp)
      rcases List.mem_cons.1 h1 with e | h1
      · exact e
      · rcases List.mem_cons.1 h2 with e | h2
        · exact e.symm
        · have h3 := (List.pairwise_cons.1 hm).1 a h1
          have h4 := (List.pairwise_cons.1 hl).1 b h2
          rw [h3] at h4
          cases h4
    subst hab
    rw [sorted_unique_KV hp.cons_inv (List.pairwise_cons.1 hl).2 (List.pairwise_cons.1 hm).2]
theorem zip_up {ks : List ByteArray} {xs : List Value} (hu : KeysUp ks) (hx : xs.length = ks.length) : (ks.zip xs).Pairwise (fun a b => ltKV a b = true) := by
  refine List.pairwise_iff_getElem.2 fun i j hi hj hij => ?_
  simp only [List.length_zip] at hi hj
  rw [List.getElem_zip, List.getElem_zip]
  exact hu.lt' hij (by omega)
/-- The sorted row is the map's own order. -/
theorem sorted_is_zip {ks : List ByteArray} {xs : List Value} {E : List KV} {d' : Array KV} (hu : KeysUp ks) (hx : xs.length = ks.length) (hE : E.Perm (ks.zip xs)) (hp : Sort.PermIn 0 E.toArray.size E.toArray d') (hs : Sort.SortedIn ltKV 0 E.toArray.size d') : d'.toList = ks.zip xs := by
  obtain ⟨hsz, -, hpp⟩ := hp
  have e1 : (E.toArray.extract 0 E.toArray.size).toList = E := by simp
  have e2 : (d'.extract 0 E.toArray.size).toList = d'.toList := by rw [← hsz]; simp
  rw [e1, e2] at hpp
  refine sorted_unique_KV (hpp.trans hE) (List.pairwise_iff_getElem.2 fun i j hi hj hij => ?_) (zip_up hu hx)
  have hi' : i < d'.size := by simpa using hi
  have hj' : j < d'.size := by simpa using hj
  have := hs i j (Nat.zero_le _) hij (by rw [← hsz]; exact hj')
  rw [getElem!_pos d' j hj', getElem!_pos d' i hi'] at this
  simpa using this
theorem swo_ltKV : Sort.SWO ltKV where
  irrefl := fun x => less_irrefl _
  trans := fun x y z h1 h2 => less_trans _ _ _ h1 h2
  ntrans := fun x y z h1 h2 => by
    unfold ltKV at *
    cases h3 : Op.bytesLess x.1.toList z.1.toList
    · rfl
    · by_cases e : x.1.toList = y.1.toList
      · rw [← e, h3] at h2
        cases h2
      · rcases less_total _ _ e with h4 | h4
        · rw [h1] at h4
          cases h4
        · rw [less_trans _ _ _ h4 h3] at h2
          cases h2
end Go.Proofs.YtjpcdbopioblaaaGreatDoor

/- The pairs sorted by their keys: the encoder's own call of sort.Slice. -/
namespace Go.Proofs.YtjpcdbopioblaaaGreatDoor
open Go.RowKit

/-- A pair's two cells. -/
def oneV (v : Value) : Value := if v.oneCell' = true then v else .nilIface
theorem oneV_one (v : Value) : (oneV v).oneCell' = true := by
  unfold oneV
  split
  · assumption
  · rfl
theorem oneV_self {v : Value} (h : v.oneCell' = true) : oneV v = v := if_pos h
def encKV (p : KV) : List Value := [.string p.1, oneV p.2]
noncomputable def kvT : TypeInfo := (Tryz.prog.info? 185).get (by kernel_rfl)
noncomputable def kvE : TypeInfo := (Tryz.prog.info? 187).get (by kernel_rfl)
theorem kvK (n : Nat) (h2 : 2 ≤ n) : Lib.swapperK n kvE 25 = 9 := by
  have a : kvE.hasPointers = true := by kernel_rfl
  have b : kvE.bytes = 32 := by kernel_rfl
  have c : (n == 0) = false := by simp; omega
  have d : (n == 1) = false := by simp; omega
  simp [Lib.swapperK, a, b, c, d]

set_option maxRecDepth 100000 in
set_option maxHeartbeats 2000000 in
/-- The closure: it reads the boxed row and two keys. -/
theorem less_kv (blk off c Bs size : Nat) (W : World) (G : Nat → ByteArray) (hs : W.cell? ⟨Bs, 0, none⟩ = some (.slice (some ⟨blk, off, none⟩) size c))
    (hc : ∀ t, t < size → W.cell? ⟨blk, off + t * 2, none⟩ = some (.string (G t))) (i j : Nat) (hi : i < size) (hj : j < size) :
    Calls Tryz.prog 163 #[.int .i64 i, .int .i64 j, .pointer (some ⟨Bs, 0, none⟩)] W fun e w' => e = .returned (.bool (Op.bytesLess (G i).toList (G j).toList)) ∧ ∃ q, w' = W.drewN q := by
  have ci := hc i hi
  have cj := hc j hj
  go_enter Tryz.func163, Tryz.ntmps163
  go_wp2
  go_quiet (fail)
  go_wp2
  go_ret
  exact ⟨rfl, nq, rfl⟩

theorem swapper9 (args : Array Value) (W : World) : (callFunc 215 args).run Tryz.prog W = ((Extern.ReflectliteSwapper.swap false args).run Tryz.prog W).andThen fun v w' => .ok (.value v) w' :=
  run_callFunc_extern Tryz.func215 (by kernel_rfl) (by kernel_rfl) (by kernel_rfl) (e := Extern.ReflectliteSwapper.swap false) (by kernel_rfl) args W

/-- The call at two elements or more. -/
theorem sort_kv_two (blk off c Bs : Nat) (d : Array KV) (h2 : 2 ≤ d.size) (hsz : d.size < 4611686018427387904) (w : World) (hH : Sort.HoldsK encKV 2 w blk off d) (hblk : blk < w.heap.size)
    (hBs : w.cell? ⟨Bs, 0, none⟩ = some (.slice (some ⟨blk, off, none⟩) d.size c)) (hB1 : Bs < w.heap.size) (hB2 : Bs ≠ blk) :
    Calls Tryz.prog 162 #[.iface 185 (.slice (some ⟨blk, off, none⟩) d.size c), .func (.func 163) #[] #[.pointer (some ⟨Bs, 0, none⟩)]] w fun e w' =>
      e = .returned (.tuple #[]) ∧ ∃ d' n os, Sort.PermIn 0 d.size d d' ∧ Sort.SortedIn ltKV 0 d.size d' ∧ w' = Sort.grow (Sort.putRowK encKV 2 (Sort.ahead w n) blk off d') os := by
  have hless : LessReadsK Tryz.prog 163 #[.pointer (some ⟨Bs, 0, none⟩)] encKV 2 ltKV blk off d.size w := by
    intro m os dk hs i j hi hj
    have e : sortWorldK encKV 2 w blk off m dk os = Sort.putRowK encKV 2 (Sort.grow (Sort.ahead w m) os) blk off dk := by
      unfold sortWorldK; rw [Sort.putRowK_grow _ _ (Sort.ahead w m) _ blk off _ hblk]
    have hHg : Sort.HoldsK encKV 2 (Sort.grow (Sort.ahead w m) os) blk off d := Sort.holdsK_grow _ _ _ _ blk off d hblk (Sort.holdsK_ahead _ _ _ _ _ _ _ hH)
    refine less_kv blk off c Bs d.size _ (fun t => dk[t]!.1) ?_ (fun t ht => ?_) i j hi hj
    · rw [e, Sort.cell?_putRowK_other _ _ _ blk off dk _ (by exact hB2), Sort.cell?_grow _ _ _ (by exact hB1)]; exact hBs
    · rw [e]; exact ((Sort.holdsK_putRowK _ _ _ blk off d dk hHg hs).cell (i := t) (c := 0) (by omega) (by omega)).1
  exact Any.sort_Slice_cells_sorted Go.Proofs.Tryz.sort6 185 187 kvT kvE (by kernel_rfl) (by kernel_rfl) (by kernel_rfl) (by kernel_rfl) 25 (fun _ => by kernel_rfl) encKV 2 (fun _ => rfl) (by kernel_rfl) (fun _ => by kernel_rfl)
    (fun x v hv => by simp only [encKV, List.mem_cons, List.not_mem_nil, or_false] at hv; rcases hv with rfl | rfl; · rfl
                      · exact oneV_one _) ltKV swo_ltKV 163 _
    (enters_of Tryz.func163 (by kernel_rfl) rfl) blk off c d h2 hsz 215 (by rw [kvK _ h2]; kernel_rfl) false
    swapper9 w hless hH hblk
/-- The call at one element or none. -/
theorem sort_kv_tiny (p : Option Addr) (n c Bs : Nat) (h1 : n ≤ 1) (w : World) :
    Calls Tryz.prog 162 #[.iface 185 (.slice p n c), .func (.func 163) #[] #[.pointer (some ⟨Bs, 0, none⟩)]] w fun e w' => e = .returned (.tuple #[]) ∧ ∃ os, w' = Sort.grow w os := by
  have hK : Lib.swapperK n kvE 25 = n + 1 := by
    rcases Nat.eq_zero_or_pos n with h | h
    · subst h; simp [Lib.swapperK]
    · obtain rfl : n = 1 := by omega
      simp [Lib.swapperK]
  exact Any.sort_Slice_tiny Go.Proofs.Tryz.sort6 185 187 kvT kvE (by kernel_rfl) (by kernel_rfl) (by kernel_rfl) (by kernel_rfl) 25 (fun _ => by kernel_rfl) p n c h1 (if n = 0 then 207 else 208) (by
    rw [hK]
    rcases Nat.eq_zero_or_pos n with h | h
    · subst h; kernel_rfl
    · obtain rfl : n = 1 := by omega
      kernel_rfl) _ #[] #[.pointer (some ⟨Bs, 0, none⟩)] w
/-- What a sort leaves: its own row, and new blocks. -/
theorem putRowK_block (w : World) (n blk off : Nat) (d : Array KV) (os : Array Obj) (k : Nat) (hk : k < w.heap.size) : (Sort.grow (Sort.putRowK encKV 2 (Sort.ahead w n) blk off d) os).heap[k]? = if blk = k then w.heap[k]?.map (Sort.onCells (Sort.putCells id off (Sort.flatK encKV 2 d))) else w.heap[k]? := by
  have hs : (Sort.putRowK encKV 2 (Sort.ahead w n) blk off d).heap.size = w.heap.size := by rw [Sort.size_putRowK]; rfl
  show ((Sort.putRowK encKV 2 (Sort.ahead w n) blk off d).heap ++ os)[k]? = _
  rw [Array.getElem?_append_left (by rw [hs]; exact hk)]
  unfold Sort.putRowK Sort.putRow Sort.mapBlock
  rw [Array.getElem?_modify]
  rfl
theorem putRowK_gb (w : World) (n blk off : Nat) (d : Array KV) (os : Array Obj) : w.grownBy (Sort.grow (Sort.putRowK encKV 2 (Sort.ahead w n) blk off d) os) (some blk) := by
  refine ⟨rfl, rfl, rfl, ?_, fun k hk hn => ?_⟩
  · have hs : (Sort.putRowK encKV 2 (Sort.ahead w n) blk off d).heap.size = w.heap.size := by rw [Sort.size_putRowK]; rfl
    show w.heap.size ≤ ((Sort.putRowK encKV 2 (Sort.ahead w n) blk off d).heap ++ os).size
    rw [Array.size_append, hs]
    omega
  · rw [putRowK_block _ _ _ _ _ _ _ hk, if_neg (fun e => hn (by rw [e]))]
theorem grow_gb (w : World) (os : Array Obj) (r : Option Nat) : w.grownBy (Sort.grow w os) r := by
  refine ⟨rfl, rfl, rfl, ?_, fun k hk _ => ?_⟩
  · show w.heap.size ≤ (w.heap ++ os).size
    rw [Array.size_append]
    omega
  · show (w.heap ++ os)[k]? = _
    rw [Array.getElem?_append_left hk]
/-- The row holds these pairs. -/
def RowKV (w : World) (kb : Nat) (l : List KV) : Prop := (∃ cs fz, w.heap[kb]? = some (.cells cs 187 fz)) ∧ Sort.HoldsK encKV 2 w kb 0 l.toArray
theorem RowKV.lt {w : World} {kb : Nat} {l : List KV} (h : RowKV w kb l) : kb < w.heap.size := by
  obtain ⟨⟨cs, fz, h⟩, _⟩ := h
  exact (Array.getElem?_eq_some_iff.1 h).1
theorem RowKV.at {w : World} {kb : Nat} {l : List KV} (h : RowKV w kb l) (i : Nat) (hi : i < l.length) : w.cell? ⟨kb, 0 + i * 2, none⟩ = some (.string l[i].1) ∧ w.cell? ⟨kb, 0 + i * 2 + 1, none⟩ = some (oneV l[i].2) := by
  have h0 := (h.2.cell (i := i) (c := 0) (by simpa using hi) (by decide)).1
  have h1 := (h.2.cell (i := i) (c := 1) (by simpa using hi) (by decide)).1
  rw [getElem!_pos l.toArray i (by simpa using hi)] at h0 h1
  exact ⟨by simpa [encKV] using h0, by simpa [encKV] using h1⟩
theorem RowKV.kept {w w' : World} {kb : Nat} {l : List KV} (h : RowKV w kb l) (hk : w'.heap[kb]? = w.heap[kb]?) : RowKV w' kb l := by
  obtain ⟨⟨cs, fz, h1⟩, h2⟩ := h
  refine ⟨⟨cs, fz, hk.trans h1⟩, fun t ht => ?_⟩
  have := h2 t ht
  refine ⟨?_, ?_⟩
  · rw [← this.1]; simp only [World.cell?, hk]
  · rw [← this.2]; simp only [World.frozen?, hk]
/-- The encoder's call: the row then holds the map's entries in their own order. -/
theorem sort_kv_any {ks : List ByteArray} {xs : List Value} {E : List KV} (hu : KeysUp ks) (hx : xs.length = ks.length) (hE : E.Perm (ks.zip xs)) (hn : E.length < 4611686018427387904) (kb c Bs : Nat) (w : World) (hR : RowKV w kb E)
    (hBs : w.cell? ⟨Bs, 0, none⟩ = some (.slice (some ⟨kb, 0, none⟩) E.length c)) (hB2 : Bs ≠ kb) :
    Calls Tryz.prog 162 #[.iface 185 (.slice (some ⟨kb, 0, none⟩) E.length c), .func (.func 163) #[] #[.pointer (some ⟨Bs, 0, none⟩)]] w fun e w' =>
      e = .returned (.tuple #[]) ∧ RowKV w' kb (ks.zip xs) ∧ w.grownBy w' (some kb) := by
  by_cases h2 : 2 ≤ E.length
  · have h := sort_kv_two kb 0 c Bs E.toArray (by simpa using h2) (by simpa using hn) w hR.2 hR.lt (by simpa using hBs) (cell_lt hBs) hB2
    rw [show E.toArray.size = E.length by simp] at h
    refine h.mono ?_
    rintro e w' ⟨rfl, d', n, os, hp, hs, rfl⟩
    have hd : d' = (ks.zip xs).toArray := by
      rw [← sorted_is_zip hu hx hE (by simpa using hp) (by simpa using hs)]
    subst hd
    obtain ⟨⟨cs, fz, h1⟩, h2⟩ := hR
    refine ⟨rfl, ⟨?_, ?_⟩, putRowK_gb _ _ _ _ _ _⟩
    · rw [putRowK_block _ _ _ _ _ _ _ (Array.getElem?_eq_some_iff.1 h1).1, if_pos rfl, h1]
      exact ⟨_, _, rfl⟩
    · refine Sort.holdsK_grow _ _ _ _ _ _ _ (by rw [Sort.size_putRowK]; exact (Array.getElem?_eq_some_iff.1 h1).1) ?_
      exact Sort.holdsK_putRowK _ _ _ _ _ E.toArray _ (Sort.holdsK_ahead _ _ _ _ _ _ _ h2) (by have := hE.length_eq; simp only [List.size_toArray]; omega)
  · refine (sort_kv_tiny (some ⟨kb, 0, none⟩) E.length c Bs (by omega) w).mono ?_
    rintro e w' ⟨rfl, os, rfl⟩
    have he : E = ks.zip xs := by
      cases E with
      | nil => exact hE.nil_eq
      | cons a l =>
        cases l with
        | nil => exact (List.perm_singleton.1 hE.symm).symm
        | cons b l => simp at h2
    rw [← he]
    exact ⟨rfl, hR.kept ((grow_gb w os none).block kb hR.lt (by simp)), grow_gb _ _ _⟩
end Go.Proofs.YtjpcdbopioblaaaGreatDoor

/- Strings as values of the reference: made, compared (StrLaws.tpl with its tree named tx4). -/
namespace Go.Proofs.YtjpcdbopioblaaaGreatDoor
open Go.RowKit

/-- A string's tree. -/
def tx4 (t : ByteArray) : RV := .mk 4 0 t [] [] []

set_option maxRecDepth 100000 in
theorem str_c (s : ByteArray) (w : World) :
    Calls Tryz.prog 22 #[.string s] w fun e w' => e = .returned (.agg #[.int .i64 4, .int .i64 0, .string s, .slice none 0 0, .slice none 0 0, .slice none 0 0]) ∧ Below w.heap.size w w' := by
  have HB := Lib.hid (fun o => (Below.refl w.heap.size w).alloc (Nat.le_refl _) o)
  go_enter Tryz.func22, Tryz.ntmps22
  go_wp2_with fail
  refine bodyPost_ret (v := .agg #[.int .i64 4, .int .i64 0, .string s, .slice none 0 0, .slice none 0 0, .slice none 0 0]) (by rw [results_cell rfl]; go_simp) rfl ?_
  exact ⟨rfl, HB.out _⟩

theorem tx4_rep {t : ByteArray} {w : World} (ht : t.size ≤ reachN) : (tx4 t).Rep w (.agg #[.int .i64 4, .int .i64 0, .string t, .slice none 0 0, .slice none 0 0, .slice none 0 0]) :=
  rep_flat (by unfold I64; omega) (by unfold I64; omega) ht
theorem tx4_good {t : ByteArray} (hv : Lib.validD t.data.toList = true) : (tx4 t).Good := by
  unfold tx4 RV.Good
  exact ⟨by decide, by decide, .inr rfl, .inl rfl, .inr rfl, .inr rfl, rfl, by decide, by decide, .inl rfl, hv, by unfold RV.GoodL; trivial, by simp, by intro i hi; simp at hi, by unfold RV.GoodL; trivial⟩

set_option maxRecDepth 100000 in
/-- Two strings that are one string are the same. -/
theorem cmp_text (t : ByteArray) (al ak av bl bk bv : Option Addr) (an ac m ck q cv bn bc bm ek bq ev : Nat) (w : World) :
    Calls Tryz.prog 40 #[.agg #[.int .i64 4, .int .i64 0, .string t, .slice al an ac, .slice ak m ck, .slice av q cv], .agg #[.int .i64 4, .int .i64 0, .string t, .slice bl bn bc, .slice bk bm ek, .slice bv bq ev]] w fun e w' => e = .returned (.int .i64 0) ∧ Below w.heap.size w w' := by
  have HB := Lib.hid (fun o o' => ((Below.refl w.heap.size w).alloc (Nat.le_refl _) o).alloc (by simp) o')
  have hT : ∀ wx, Calls Tryz.prog 80 #[.string t, .string t] wx fun e w' => e = .returned (.int .i64 0) ∧ w' = wx := fun wx => (texts_any t t wx).mono fun e w' ⟨⟨c, he, _, _, hc⟩, hw⟩ => ⟨by rw [he, hc.2 rfl], hw⟩
  have HT := Lib.hid hT
  clear hT
  go_enter Tryz.func40, Tryz.ntmps40
  go_wp2_with (go_at_call 80; refine (HT.out _).mono ?_; rintro e w3 ⟨rfl, rfl⟩)
  go_ret
  exact ⟨rfl, HB.out _ _⟩

set_option maxRecDepth 100000 in
theorem same_text (t : ByteArray) (al ak av bl bk bv : Option Addr) (an ac m ck q cv bn bc bm ek bq ev : Nat) (w : World) :
    Calls Tryz.prog 15 #[.agg #[.int .i64 4, .int .i64 0, .string t, .slice al an ac, .slice ak m ck, .slice av q cv], .agg #[.int .i64 4, .int .i64 0, .string t, .slice bl bn bc, .slice bk bm ek, .slice bv bq ev]] w fun e w' => e = .returned (.bool true) ∧ Below w.heap.size w w' := by
  have HB := Lib.hid (fun o o' => ((Below.refl w.heap.size w).alloc (Nat.le_refl _) o).alloc (by simp) o')
  have HC := Lib.hid (fun wx => cmp_text t al ak av bl bk bv an ac m ck q cv bn bc bm ek bq ev wx)
  go_enter Tryz.func15, Tryz.ntmps15
  go_wp2_with (go_at_call 40; refine (HC.out _).mono ?_; rintro e w3 ⟨rfl, hb3⟩; have HB3 := Lib.hid ((HB.out _ _).trans (hb3.mono (by simp; omega))); clear hb3)
  go_ret
  exact ⟨rfl, HB3.out⟩

/-- The answer of a string, taken apart. -/
theorem ResIs.text {t : ByteArray} {w : World} {r : Value} (h : ResIs (tx4 t) w r) : ∃ al an ac ak m ck av q cv, r = .agg #[.int .i64 4, .int .i64 0, .string t, .slice al an ac, .slice ak m ck, .slice av q cv, .int .i64 0] := by
  obtain ⟨k, h, t', al, n, cl, ak, m, ck, av, q, cv, e, hr⟩ := h
  unfold tx4 RV.Rep at hr
  obtain ⟨al', cl', ak', ck', av', cv', e2, _⟩ := hr
  simp only [Value.agg.injEq, Array.mk.injEq, List.cons.injEq, Value.int.injEq, Value.string.injEq, true_and, and_true] at e2
  obtain ⟨rfl, rfl, rfl, _⟩ := e2
  exact ⟨_, _, _, _, _, _, _, _, _, e⟩
end Go.Proofs.YtjpcdbopioblaaaGreatDoor

/- laws.control walked: it answers. -/
namespace Go.Proofs.YtjpcdbopioblaaaGreatDoor
open Go.RowKit

theorem below_one {w : World} (o : Obj) : Below w.heap.size w (w.alloc o) := (Below.refl w.heap.size w).alloc (Nat.le_refl _) o
set_option maxRecDepth 100000 in
/-- 'append([]string{t}, keys...)'. -/
theorem strs_run (t : ByteArray) (ks : List ByteArray) (ak : Option Addr) (ck : Nat) (W : World) (hk : KeysAt W ak 0 ks) (hl : ks.length ≤ 100000) :
    ∃ g c w2, (Builtin.append_ #[25, 25] 25 #[.slice (some ⟨W.heap.size, 0, none⟩) 1 1, .slice ak ks.length ck]).run Tryz.prog (W.alloc (.cells #[.string t] 9)) = .ok (.slice (some ⟨g, 0, none⟩) (1 + ks.length) c) w2 ∧
      (∀ j (h : j < (t :: ks).length), w2.cell? ⟨g, j, none⟩ = some (.string (t :: ks)[j])) ∧ Below W.heap.size W w2 := by
  obtain ⟨i0, hi0, hz0, hzs, hzb⟩ := info_parts Tryz.infoString
  have hown : (W.alloc (.cells #[.string t] 9)).ownsRow W.heap.size 9 1 (.slice (some ⟨W.heap.size, 0, none⟩) 1 1) 1 [.string t] :=
    ⟨by simp, .inr ⟨W.heap.size, 1, #[.string t], rfl, Nat.le_refl _, heap_alloc_new W _, Nat.le_refl _, by decide, by simp, by simp⟩⟩
  have hb := below_one (w := W) (.cells #[.string t] 9)
  obtain ⟨g, c, w2, hr, hown2, hg⟩ := append_src_row (P := Tryz.prog) (W.alloc (.cells #[.string t] 9)) W.heap.size 25 25 9 i0 (.string ByteArray.empty) 1 16 Tryz.underlying25 hi0 hz0 hzs hzb (by decide) (by decide)
    W.heap.size 1 1 [.string t] hown ak ks.length ck (ks.map Value.string) (by simp) (fun h => by
      obtain ⟨b, o, rfl, -, -⟩ := hk.get 0 h
      refine ⟨⟨b, o, none⟩, rfl, fun j u hj => ?_⟩
      rw [List.getElem?_map, Option.map_eq_some_iff] at hj
      obtain ⟨s, hs, rfl⟩ := hj
      obtain ⟨hlt, rfl⟩ := List.getElem?_eq_some_iff.1 hs
      obtain ⟨b', o', e, -, hc⟩ := hk.get j hlt
      injection e with e
      injection e with e1 e2
      subst e1 e2
      rw [add_mk]
      rw [Nat.zero_add] at hc
      exact (hb.cell (p := ⟨b, _, none⟩) (cell_lt hc)).trans hc) (fun u hu => by
      obtain ⟨s, _, rfl⟩ := List.mem_map.1 hu
      rfl) (by unfold maxLen; omega) (by omega) (by simp) (fun h => by
      rcases Nat.eq_zero_or_pos ks.length with h0 | h0
      · exact .inr h0
      · obtain ⟨b, o, e, -, -⟩ := hk.get 0 h0
        rw [h] at e; cases e)
  refine ⟨g, c, w2, hr, fun j hj => ?_, below_gb hb hg hb.size (Nat.le_refl _) |>.mono (Nat.le_refl _)⟩
  have hc := hown2.cellAt j (by simp at hj; omega)
  rw [hc]
  have e : [Value.string t] ++ ks.map Value.string = (t :: ks).map Value.string := rfl
  rw [e, List.getElem?_map, List.getElem?_eq_getElem hj]
  rfl
def CtlIH (n : Nat) : Prop := ∀ (x : RV) (v : Value) (w : World), x.nodes ≤ n → x.Good → x.nodes ≤ 400 → x.Rep w v → Calls Tryz.prog 42 #[v] w (BoolPost w)

set_option maxRecDepth 100000 in
set_option maxHeartbeats 3200000 in
theorem control_step (n : Nat) (ih : CtlIH n) (k h : Int) (t : ByteArray) (l : List RV) (ks : List ByteArray) (vs : List RV) (v : Value) (w : World) (hn : RV.nodesL l + RV.nodesL vs ≤ n) (hn4 : RV.nodesL l + RV.nodesL vs ≤ 400) (hgl : RV.GoodL l) (hgv : RV.GoodL vs) (hk : ks.length ≤ 400) (ht : t.size ≤ reachN) (hr : (RV.mk k h t l ks vs).Rep w v) :
    Calls Tryz.prog 42 #[v] w (BoolPost w) := by
  unfold RV.Rep at hr
  obtain ⟨al, cl, ak, ck, av, cv, rfl, -, -, -, hll, hlk, hlv, hrl, hrk, hrv⟩ := hr
  have HIH := Lib.hid ih
  have HN := Lib.hid (And.intro hn hn4)
  have HG := Lib.hid (And.intro hgl hgv)
  have hb0 := below_one (w := w) (.cells #[.int .i64 k, .int .i64 h, .string t, .slice al l.length cl, .slice ak ks.length ck, .slice av vs.length cv] 27)
  obtain ⟨g, c, w2, hrun, hcells, hb2⟩ := strs_run t ks ak ck _ (hrk.below hb0) (by omega)
  have HSZ : Hid (∀ j (h : j < (t :: ks).length), (t :: ks)[j].size ≤ reachN) := Lib.hid fun j hj => by
    cases j with
    | zero => exact ht
    | succ j =>
      obtain ⟨_, _, _, hs, _⟩ := hrk.get j (by simpa using hj)
      exact hs
  have HRL := Lib.hid (fun wx (hx : Below w2.heap.size w2 wx) => RV.RepL.below (hb0.trans (hb2.mono hb0.size) |>.trans (hx.mono (Nat.le_trans hb0.size hb2.size))) hrl)
  have HRV := Lib.hid (fun wx (hx : Below w2.heap.size w2 wx) => RV.RepL.below (hb0.trans (hb2.mono hb0.size) |>.trans (hx.mono (Nat.le_trans hb0.size hb2.size))) hrv)
  have HB2 := Lib.hid (hb0.trans (hb2.mono hb0.size))
  have HC : Hid (∀ wx, Below w2.heap.size w2 wx → wx.cell? ⟨w.heap.size, 3, none⟩ = some (.slice al l.length cl) ∧ wx.cell? ⟨w.heap.size, 5, none⟩ = some (.slice av vs.length cv)) := Lib.hid fun wx hx => by
    have hlt : w.heap.size < (w.alloc (.cells #[.int .i64 k, .int .i64 h, .string t, .slice al l.length cl, .slice ak ks.length ck, .slice av vs.length cv] 27)).heap.size := by simp
    have hlt2 := Nat.lt_of_lt_of_le hlt hb2.size
    refine ⟨?_, ?_⟩
    · rw [hx.cell (p := ⟨w.heap.size, 3, none⟩) hlt2, hb2.cell (p := ⟨w.heap.size, 3, none⟩) hlt]; simp
    · rw [hx.cell (p := ⟨w.heap.size, 5, none⟩) hlt2, hb2.cell (p := ⟨w.heap.size, 5, none⟩) hlt]; simp
  rw [show (w.alloc (.cells #[.int .i64 k, .int .i64 h, .string t, .slice al l.length cl, .slice ak ks.length ck, .slice av vs.length cv] 27)).heap.size = w.heap.size + 1 by simp] at hrun
  have HRUN := Lib.hid hrun
  have HCL := Lib.hid hcells
  have HLL := Lib.hid (And.intro hll hlv)
  clear hrun hcells hb2 hb0 hrl hrk hrv ih hn hn4 ht hll hlk hlv hgl hgv
  unfold BoolPost
  go_enter Tryz.func42, Tryz.ntmps42
  go_wp2_with (at_builtin; (with_reducible refine wpList_append_run (o := ⟨some 13, _, _, _, _, _⟩) _ ?a1 (.tmp 10) (.tmp 12) 25 ?a2 (.slice (some ⟨w.heap.size + 1, 0, none⟩) 1 1) (.slice ak ks.length ck) ?a3 ?a4 ?a5); (case a1 => rfl); (case a2 => rfl); (case a3 => rfl); (case a4 => rfl); refine ⟨_, _, HRUN.out, ?_⟩)
  go_loopg [15] (1 + ks.length) (fun gk s15 wr => w2 = wr ∧ ∃ i : Nat, s15 = .int .i64 i ∧ i ≤ 1 + ks.length ∧ gk = 1 + ks.length - i)
  case atStart => exact ⟨rfl, 0, rfl, Nat.zero_le _, rfl⟩
  case round =>
    obtain ⟨rfl, i, rfl, hi, rfl⟩ := hrel
    by_cases hlt : i < 1 + ks.length
    · have hj : (i : Int) < 1 + (ks.length : Int) := by omega
      have hlt2 : i < (t :: ks).length := by simp; omega
      have hc := HCL.out i hlt2
      have hs := HSZ.out i hlt2
      unfold reachN at hs
      generalize (t :: ks)[i] = sx at *
      clear hi
      go_wp2_with fail
      go_loopg [5] sx.size (fun gk s5 wx => w2 = wx ∧ ∃ q : Nat, s5 = .int .i64 q ∧ q ≤ sx.size ∧ gk = sx.size - q)
      case atStart => exact ⟨rfl, 0, rfl, Nat.zero_le _, rfl⟩
      case round =>
        obtain ⟨rfl, q, rfl, hq, rfl⟩ := hrel
        by_cases hql : q < sx.size
        · have hjq : (q : Int) < (sx.size : Int) := by omega
          clear hq
          by_cases h32 : (sx[q].toNat : Int) < 32
          · go_wp2_with fail
            go_ret
            first | exact ⟨⟨_, rfl⟩, HB2.out⟩ | exact ⟨.inr rfl, HB2.out⟩
          · cases h127 : ((sx[q].toNat : Int) == 127)
            · go_wp2_with fail
              go_roundg (sx.size - (q + 1))
              case measure => omega
              case rel => exact ⟨rfl, q + 1, by go_num, by omega, rfl⟩
            · go_wp2_with fail
              go_ret
              first | exact ⟨⟨_, rfl⟩, HB2.out⟩ | exact ⟨.inr rfl, HB2.out⟩
        · obtain rfl : q = sx.size := by omega
          clear hq hql
          go_wp2_with fail
          go_roundg (1 + ks.length - (i + 1))
          case measure => omega
          case rel => exact ⟨rfl, i + 1, by go_num, by omega, rfl⟩
    · obtain rfl : i = 1 + ks.length := by omega
      clear hi hlt
      have hll := HLL.out.1
      have hlv := HLL.out.2
      unfold reachN at hll hlv
      have hca := HC.out w2 (Below.refl _ _)
      obtain ⟨hc3, hc5⟩ := hca
      go_wp2_with fail
      clear hc3 hc5
      go_loopg [6] l.length (fun gk s6 wr => ∃ i : Nat, s6 = .int .i64 i ∧ i ≤ l.length ∧ gk = l.length - i ∧ Hid (Below w2.heap.size w2 wr))
      case atStart => exact ⟨0, rfl, Nat.zero_le _, rfl, Lib.hid (Below.refl _ _)⟩
      case round =>
        obtain ⟨i, rfl, hi, rfl, HK⟩ := hrel
        obtain ⟨hc3, hc5⟩ := HC.out wr HK.out
        by_cases hlt : i < l.length
        · obtain ⟨vb, vo, d0, d1, d2, d3, d4, d5, rfl, e0, e1, e2, e3, e4, e5, hrz⟩ := (HRL.out wr HK.out).get i hlt
          simp only [Nat.zero_add] at e0 e1 e2 e3 e4 e5
          have HZ := Lib.hid hrz
          have hj : (i : Int) < (l.length : Int) := by omega
          have HNI := Lib.hid (RV.nodes_le hlt)
          obtain ⟨zk, zh, zt, zal, znl, zcl, zak, znk, zck, zav, znv, zcv, rfl, rfl, rfl, rfl, rfl, rfl⟩ := hrz.shape
          clear hrz hi
          go_wp2_with fail
          refine (HIH.out l[i] _ _ (by have := HNI.out; have := HN.out.1; omega) (HG.out.1.get i hlt) (by have := HNI.out; have := HN.out.2; omega) HZ.out).mono ?_
          rintro e w4 ⟨⟨bb, rfl⟩, hb4⟩
          have HB4 := Lib.hid (HK.out.trans (hb4.mono HK.out.size))
          clear hb4
          cases bb
          · go_wp2_with fail
            go_roundg (l.length - (i + 1))
            case measure => omega
            case rel => exact ⟨i + 1, by go_num, by omega, rfl, HB4⟩
          · go_wp2_with fail
            go_ret
            first | exact ⟨⟨_, rfl⟩, HB2.out.trans (HB4.out.mono HB2.out.size)⟩ | exact ⟨_, rfl, HB2.out.trans (HB4.out.mono HB2.out.size)⟩
        · obtain rfl : i = l.length := by omega
          clear hi hlt
          go_wp2_with fail
          clear hc3 hc5
          go_loopg [7] vs.length (fun gk s7 wr => ∃ i : Nat, s7 = .int .i64 i ∧ i ≤ vs.length ∧ gk = vs.length - i ∧ Hid (Below w2.heap.size w2 wr))
          case atStart => exact ⟨0, rfl, Nat.zero_le _, rfl, HK⟩
          case round =>
            clear HK
            obtain ⟨i, rfl, hi, rfl, HK⟩ := hrel
            obtain ⟨hc3, hc5⟩ := HC.out wr HK.out
            by_cases hlt : i < vs.length
            · obtain ⟨vb, vo, d0, d1, d2, d3, d4, d5, rfl, e0, e1, e2, e3, e4, e5, hrz⟩ := (HRV.out wr HK.out).get i hlt
              simp only [Nat.zero_add] at e0 e1 e2 e3 e4 e5
              have HZ := Lib.hid hrz
              have hj : (i : Int) < (vs.length : Int) := by omega
              have HNI := Lib.hid (RV.nodes_le hlt)
              obtain ⟨zk, zh, zt, zal, znl, zcl, zak, znk, zck, zav, znv, zcv, rfl, rfl, rfl, rfl, rfl, rfl⟩ := hrz.shape
              clear hrz hi
              go_wp2_with fail
              refine (HIH.out vs[i] _ _ (by have := HNI.out; have := HN.out.1; omega) (HG.out.2.get i hlt) (by have := HNI.out; have := HN.out.2; omega) HZ.out).mono ?_
              rintro e w4 ⟨⟨bb, rfl⟩, hb4⟩
              have HB4 := Lib.hid (HK.out.trans (hb4.mono HK.out.size))
              clear hb4
              cases bb
              · go_wp2_with fail
                go_roundg (vs.length - (i + 1))
                case measure => omega
                case rel => exact ⟨i + 1, by go_num, by omega, rfl, HB4⟩
              · go_wp2_with fail
                go_ret
                first | exact ⟨⟨_, rfl⟩, HB2.out.trans (HB4.out.mono HB2.out.size)⟩ | exact ⟨_, rfl, HB2.out.trans (HB4.out.mono HB2.out.size)⟩
            · obtain rfl : i = vs.length := by omega
              clear hi hlt
              go_wp2_with fail
              go_ret
              first | exact ⟨⟨_, rfl⟩, HB2.out.trans (HK.out.mono HB2.out.size)⟩ | exact ⟨_, rfl, HB2.out.trans (HK.out.mono HB2.out.size)⟩
theorem control_all : ∀ n, CtlIH n := by
  intro n
  induction n with
  | zero => intro x v w hn; have := x.nodes_pos; omega
  | succ n ih =>
    intro x v w hn hg hn4 hr
    obtain ⟨k, h, t, l, ks, vs⟩ := x
    have hr2 := hr
    unfold RV.Good at hg
    obtain ⟨-, -, -, -, -, -, gkv, -, -, -, -, gl, -, -, gv⟩ := hg
    unfold RV.nodes at hn hn4
    unfold RV.Rep at hr2
    obtain ⟨_, _, _, _, _, _, _, -, -, ht, -⟩ := hr2
    have h2 := RV.len_le vs
    exact control_step n ih k h t l ks vs v w (by omega) (by omega) gl gv (by omega) ht hr
theorem control_any (x : RV) (v : Value) (w : World) (hg : x.Good) (hn : x.nodes ≤ 400) (hr : x.Rep w v) : Calls Tryz.prog 42 #[v] w (BoolPost w) :=
  control_all x.nodes x v w (Nat.le_refl _) hg hn hr
end Go.Proofs.YtjpcdbopioblaaaGreatDoor
