/- Small functions of the laws walked: array, fits. -/
import Derived.Test.YtjpcdbopioblaaaDoorFromGoAll
namespace Go.Proofs.YtjpcdbopioblaaaDoor
open Go.RowKit

/-- A list as a value. -/
def arrT (l : List RV) : RV := .mk 5 0 ByteArray.empty l [] []
theorem arrT_good {l : List RV} (h : RV.GoodL l) : (arrT l).Good := by
  unfold arrT RV.Good
  exact ⟨by decide, by decide, .inr rfl, .inr rfl, .inl rfl, .inr rfl, rfl, by decide, by decide, .inl rfl, by decide, h, by simp, by intro i hi; simp at hi, by unfold RV.GoodL; trivial⟩
theorem arrT_nodes (l : List RV) : (arrT l).nodes = 1 + RV.nodesL l := by simp [arrT, RV.nodes, RV.nodesL]
theorem arrT_bytes (l : List RV) : (arrT l).bytes = RV.bytesL l := by
  have : ByteArray.empty.size = 0 := rfl
  simp [arrT, RV.bytes, RV.bytesL, keysSize, this]
theorem arrT_sized {l : List RV} (h1 : RV.nodesL l ≤ 99999) (h2 : RV.bytesL l ≤ 100000) : (arrT l).Sized :=
  ⟨by rw [arrT_nodes]; omega, by rw [arrT_bytes]; exact h2⟩
theorem arrT_rep {w : World} {l : List RV} {a : Option Addr} {c : Nat} (hl : l.length ≤ reachN) (h : RV.RepL w a 0 l) :
    (arrT l).Rep w (.agg #[.int .i64 5, .int .i64 0, .string ByteArray.empty, .slice a l.length c, .slice none 0 0, .slice none 0 0]) := by
  unfold arrT RV.Rep
  exact ⟨a, c, none, 0, none, 0, rfl, by unfold I64; omega, by unfold I64; omega, by decide, hl, by simp, by simp, h, trivial, by unfold RV.RepL; trivial⟩

set_option maxRecDepth 100000 in
theorem array_c (a : Option Addr) (n c : Nat) (w : World) :
    Calls Tryd.prog 20 #[.slice a n c] w fun e w' => e = .returned (.agg #[.int .i64 5, .int .i64 0, .string ByteArray.empty, .slice a n c, .slice none 0 0, .slice none 0 0]) ∧ Below w.heap.size w w' := by
  have HB := Lib.hid (fun o => (Below.refl w.heap.size w).alloc (Nat.le_refl _) o)
  go_enter Tryd.func20, Tryd.ntmps20
  go_wp2_with fail
  refine bodyPost_ret (v := .agg #[.int .i64 5, .int .i64 0, .string ByteArray.empty, .slice a n c, .slice none 0 0, .slice none 0 0]) (by rw [results_cell rfl]; go_simp; rfl) rfl ?_
  exact ⟨rfl, HB.out _⟩

def FitsPost (l : List RV) (w : World) (e : Ending) (w' : World) : Prop :=
  ∃ b, e = .returned (.bool b) ∧ Below w.heap.size w w' ∧ (b = true → ∀ (j : Nat) (h : j < l.length), l[j].Good ∧ l[j].nodes ≤ 400 ∧ l[j].bytes ≤ 2000)

set_option maxRecDepth 100000 in
set_option maxHeartbeats 1600000 in
theorem fits_any (l : List RV) (a : Option Addr) (c : Nat) (w : World) (hl : l.length ≤ reachN) (hT : Tabs w) (hr : RV.RepL w a 0 l) :
    Calls Tryd.prog 19 #[.slice a l.length c] w (FitsPost l w) := by
  have HR := Lib.hid hr
  have HT := Lib.hid hT
  unfold reachN at hl
  clear hr hT
  unfold FitsPost
  go_enter Tryd.func19, Tryd.ntmps19
  go_wp2_with fail
  go_loopg [7] (l.length) (fun gk s7 wr => ∃ i : Nat, s7 = .int .i64 i ∧ i ≤ l.length ∧ gk = l.length - i ∧ Hid (Below w.heap.size w wr ∧ ∀ (j : Nat) (_ : j < i) (h : j < l.length), l[j].Good ∧ l[j].nodes ≤ 400 ∧ l[j].bytes ≤ 2000))
  case atStart => exact ⟨0, rfl, Nat.zero_le _, rfl, Lib.hid ⟨Below.refl _ _, fun j hj => absurd hj (Nat.not_lt_zero _)⟩⟩
  case round =>
    obtain ⟨i, rfl, hi, rfl, HS⟩ := hrel
    by_cases hlt : i < l.length
    · obtain ⟨ab, ao, x0, x1, x2, x3, x4, x5, rfl, g0, g1, g2, g3, g4, g5, hra⟩ := (HR.out.below HS.out.1).get i hlt
      simp only [Nat.zero_add] at g0 g1 g2 g3 g4 g5
      obtain ⟨k, h, t, al, m, cl, ak, mk, ck, av, mv, cv, rfl, rfl, rfl, rfl, rfl, rfl⟩ := hra.shape
      have HRA := Lib.hid hra
      have hj1 : (i : Int) < (l.length : Int) := by omega
      have HF := Lib.hid (fun wx (hb : Below wr.heap.size wr wx) => fit_any l[i] _ wx ((HT.out.below HS.out.1).below hb) (HRA.out.below hb))
      clear hi hra
      go_wp2_with fail
      refine (HF.out _ ((Below.refl _ _).alloc (Nat.le_refl _) _)).mono ?_
      rintro e w1 ⟨b, rfl, hb1, hq⟩
      have HQ := Lib.hid hq
      have HB1 := Lib.hid (HS.out.1.trans ((((Below.refl wr.heap.size wr).alloc (Nat.le_refl _) _).trans (hb1.mono (by simp))).mono HS.out.1.size))
      clear hq hb1
      cases b
      · go_wp2_with fail
        go_ret
        exact ⟨false, rfl, HB1.out, fun e => by cases e⟩
      · go_wp2_with fail
        go_roundg (l.length - (i + 1))
        case measure => omega
        case rel => exact ⟨i + 1, by go_num, by omega, rfl, Lib.hid ⟨HB1.out, fun j hj hjl => by
          rcases Nat.lt_or_ge j i with h | h
          · exact HS.out.2 j h hjl
          · have : j = i := by omega
            subst this
            exact HQ.out (by simp)⟩⟩
    · go_wp2_with fail
      go_ret
      exact ⟨true, rfl, HS.out.1, fun _ j hj => HS.out.2 j (by omega) hj⟩
end Go.Proofs.YtjpcdbopioblaaaDoor
