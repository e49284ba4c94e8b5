/- The JSON encoder's encodeFloat64 walked at a half. -/
import Derived.Test.YtjpcdbopioblaaaEncFloat
namespace Go.Proofs.Ytjpcdbopioblaaa
open Go.RowKit

/-- How a half compares. -/
structure HalfCmp (F A : Nat) : Prop where
  same : FloatKind.f64.format.order F F = some .eq
  low : FloatKind.f64.format.order F 18442240474082181119 = some .gt
  high : FloatKind.f64.format.order F 9218868437227405311 = some .lt
  abs : bits .andNot .u64 (F : Int) 9223372036854775808 = (A : Int)
  e21 : FloatKind.f64.format.order A 4921056587992461136 = some .lt
  zero : (FloatKind.f64.format.order A 0 = some .eq) ∨ (FloatKind.f64.format.order A 0 = some .gt ∧ FloatKind.f64.format.order A 4517329193108106637 = some .gt)
theorem halfCmp (h : Int) (h1 : -9007199254740992 < h) (h2 : h < 9007199254740992) : ∃ A, HalfCmp (halfBits h) A := by
  by_cases h0 : h = 0
  · subst h0
    have e : halfBits 0 = 0 := by decide +kernel
    rw [e]
    exact ⟨0, by decide +kernel, by decide +kernel, by decide +kernel, by decide +kernel, by decide +kernel, .inl (by decide +kernel)⟩
  · exact ⟨halfBits (h.natAbs : Int), half_order_same h h0 h1 h2, half_gt_low h h0 h1 h2, half_lt_high h h0 h1 h2, half_abs h h0 h1 h2, half_lt_e21 _ (by omega) (by omega), .inr ⟨half_gt_0 _ (by omega) (by omega), half_gt_e6 _ (by omega) (by omega)⟩⟩

noncomputable def EncS.cells {K : Wr} {B b eb : Nat} {l : List UInt8} {W : World} (h : EncS K B b eb l W) : Array Value := h.enc.choose
theorem EncS.row {K : Wr} {B b eb : Nat} {l : List UInt8} {W : World} (h : EncS K B b eb l W) : W.heap[eb]? = some (.cells h.cells 35 (0, 0)) ∧ h.cells.size = 65 := ⟨h.enc.choose_spec.1, h.enc.choose_spec.2.2⟩
theorem EncS.row0 {K : Wr} {B b eb : Nat} {l : List UInt8} {W : World} (h : EncS K B b eb l W) : h.cells[0]? = some (.iface K.T (.pointer (some ⟨b, 0, none⟩))) := h.enc.choose_spec.2.1
/-- The buffer written. -/
theorem EncS.app {K : Wr} (hk : K.Keeps) {B b eb : Nat} {l : List UInt8} {W W' : World} {cs' : Array Value} (h : EncS K B b eb l W) (hb : W'.heap[eb]? = some (.cells cs' 35 (0, 0))) (hz : cs'.size = 65) (hc : cs'[0]? = h.cells[0]?) (hg : W.grownBy W' (some eb)) : EncS K B b eb l W' := by
  refine ⟨hk.kept _ _ _ _ _ h.bld (fun k o h1 _ h3 => ?_), ⟨cs', hb, hc.trans h.row0, hz⟩, h.ne, h.lo, Nat.le_trans h.size hg.size⟩
  by_cases hk2 : k = eb
  · subst hk2
    rw [h.row.1] at h1
    injection h1 with h1
    exact absurd h1.symm (h3 _ _)
  · exact (hg.block k (Array.getElem?_eq_some_iff.1 h1).1 (fun e => hk2 (by injection e))).trans h1
theorem enc_frame {B b eb : Nat} {W W1 W2 : World} (hlo : B ≤ eb) (hB : B ≤ W.heap.size) (hg : W.grownBy W1 (some eb)) (hb : Below B W1 W2) (hk : Lib.OthersKept 5 (some b) W1 W2) : Below B W W2 ∧ EKept b eb W W2 :=
  ⟨(below_gb (Below.refl B W) hg hB hlo).trans hb, (EKept.of_gb hg).trans (EKept.of_others hk)⟩

set_option maxRecDepth 100000 in
set_option maxHeartbeats 3200000 in
theorem encodeFloat64_any (K : Wr) (hk : K.Keeps) (hw : K.Writes) (h : Int) (B b eb : Nat) (l : List UInt8) (w : World) (hE : EncS K B b eb l w) (h1 : -9007199254740992 < h) (h2 : h < 9007199254740992) (hl : l.length ≤ 100000000) :
    Calls Try.prog 9 #[.pointer (some ⟨eb, 0, none⟩), .float .f64 (halfBits h)] w (EncPost K B b eb (l ++ numBytes h) w) := by
  obtain ⟨A, hA⟩ := halfCmp h h1 h2
  have HE := Lib.hid hE
  have HA : Hid (∀ (cs : Array Value) (wx : World), wx.heap[eb]? = some (.cells cs 35 (0, 0)) → cs.size = 65 → Calls Try.prog 12 #[.slice (some ⟨eb, 1, none⟩) 0 64, .float .f64 (halfBits h), .int .u8 102, .int .i64 (-1), .int .i64 64] wx (AppPost eb (numBytes h) cs wx)) := Lib.hid fun cs wx h3 h4 => appendFloat_any h eb cs wx h1 h2 h3 h4
  have hnl := numBytes_len h h1 h2
  generalize halfBits h = F at *
  generalize numBytes h = t at *
  have HN := Lib.hid (fun wx => isNaN_any F wx hA.same)
  have HB := Lib.hid (fun wx => abs_any F A wx hA.abs)
  have hmx := fun ts tt wx => run_max_gt (P := Try.prog) ts tt .f64 F 18442240474082181119 wx hA.low
  have hmn := fun ts tt wx => run_min_lt (P := Try.prog) ts tt .f64 F 9218868437227405311 wx hA.high
  have ho := hA.e21
  have hi := hE.iface
  have HZ := Lib.hid hA.zero
  clear hA hE h1 h2
  rcases HZ.out with hz | ⟨hz, hz2⟩
  all_goals
    go_enter Try.func9, Try.ntmps9
    go_wp2_with fail
    refine (HN.out _).mono ?_
    rintro e w2 ⟨rfl, rfl⟩
    go_wp2_with fail
    refine (HB.out _).mono ?_
    rintro e w2 ⟨rfl, rfl⟩
    go_wp2_with fail
    refine (HA.out _ _ HE.out.row.1 HE.out.row.2).mono ?_
    rintro e w3 ⟨cs', rfl, hb3, hz3, hc3, ht3, hg3⟩
    have HE3 := Lib.hid (HE.out.app hk hb3 hz3 hc3 hg3)
    have HG3 := Lib.hid (And.intro hb3 (And.intro ht3 hg3))
    clear hb3 hz3 hc3 ht3 hg3 hi
    have hi := HE3.out.iface
    have hme := hw.meth
    have hen := hw.enter
    go_wp2_with fail
    refine (hw.write B b eb 1 t.length 64 l t cs' w3 HE3.out.bld HG3.out.1 rfl HG3.out.2.1 (by omega) HE3.out.size).mono ?_
    rintro e w4 ⟨rfl, hw4⟩
    have HW4 := Lib.hid hw4
    clear hw4
    go_wp2_with fail
    go_end0
    exact ⟨rfl, HE3.out.wrote HW4.out, enc_frame HE.out.lo HE.out.size HG3.out.2.2 HW4.out.2.1 HW4.out.2.2⟩
end Go.Proofs.Ytjpcdbopioblaaa
