/- impl.QuoteText walked: a string's JSON text. -/
import Derived.Test.YtjpcdbopioblaaaDoorEncStr
import Derived.Test.YtjpcdbopioblaaaDoorQuotePlain
namespace Go.Proofs.YtjpcdbopioblaaaDoor
open Go.RowKit

def QuotedPost (s : ByteArray) (B b : Nat) (w : World) (e : Ending) (w' : World) : Prop :=
  e = .returned (.tuple #[]) ∧ Lib.IsBuilderF 75 5 B b (Lib.byteCells (34 :: s.data.toList.flatMap encB ++ [34])) w' ∧ Below B w w'

set_option maxRecDepth 100000 in
set_option maxHeartbeats 800000 in
theorem jsonEncodeString_any (s : ByteArray) (B b : Nat) (w : World) (hv : Lib.validD s.data.toList = true) (hb : Lib.IsBuilderF 75 5 B b [] w) (hB : B ≤ w.heap.size) (hlt : b < w.heap.size) (hT : ∀ W, Below B w W → Tabs W) (hs : s.size ≤ 1000000) :
    Calls Tryd.prog 60 #[.pointer (some ⟨b, 0, none⟩), .string s] w (QuotedPost s B b w) := by
  have HE : Hid (∀ cs : Array Value, cs[0]? = some (.iface 72 (.pointer (some ⟨b, 0, none⟩))) → EncS B b w.heap.size [] (w.alloc (.cells cs 126))) := Lib.hid fun cs hc =>
    ⟨by simpa [Lib.byteCells] using hb.alloc _, ⟨cs, heap_alloc_new w _, hc⟩, by omega, by simp; omega⟩
  have HA : Hid (∀ o, Below B w (w.alloc o)) := Lib.hid fun o => (Below.refl B w).alloc hB o
  have HT := Lib.hid hT
  have HV := Lib.hid hv
  have HL := Lib.hid hs
  clear hT hv hs hb hB hlt
  unfold QuotedPost
  go_enter Tryd.func60, Tryd.ntmps60
  go_wp2_with fail
  refine (encodeString_any s B b _ [] _ HV.out (HE.out _ rfl) (fun W h => HT.out W ((HA.out _).trans h)) (by have := HL.out; simp; omega)).mono ?_
  rintro e w2 ⟨rfl, h2, hb2, hk2⟩
  have H2 := Lib.hid h2.bld
  have HB2 := Lib.hid ((HA.out _).trans hb2)
  clear h2 hb2 hk2
  go_wp2_with fail
  go_end0
  exact ⟨rfl, H2.out, HB2.out⟩

set_option maxRecDepth 100000 in
theorem zzQuote_any (s : ByteArray) (B b : Nat) (w : World) (hv : Lib.validD s.data.toList = true) (hb : Lib.IsBuilderF 75 5 B b [] w) (hB : B ≤ w.heap.size) (hlt : b < w.heap.size) (hT : ∀ W, Below B w W → Tabs W) (hs : s.size ≤ 1000000) :
    Calls Tryd.prog 40 #[.pointer (some ⟨b, 0, none⟩), .string s] w (QuotedPost s B b w) := by
  have HJ := Lib.hid (jsonEncodeString_any s B b w hv hb hB hlt hT hs)
  clear hT hv hs hb hB hlt
  unfold QuotedPost at HJ ⊢
  go_enter Tryd.func40, Tryd.ntmps40
  go_wp2_with fail
  refine HJ.out.mono ?_
  rintro e w2 ⟨rfl, h2, hb2⟩
  have H2 := Lib.hid h2
  have HB2 := Lib.hid hb2
  clear h2 hb2
  go_wp2_with fail
  go_end0
  exact ⟨rfl, H2.out, HB2.out⟩

set_option maxRecDepth 100000 in
theorem quoteText_any (s : ByteArray) (w : World) (hv : Lib.validD s.data.toList = true) (hT : Tabs w) (hs : s.size ≤ 1000000) :
    Calls Tryd.prog 15 #[.string s] w fun e w' => e = .returned (.string ⟨(34 :: s.data.toList.flatMap encB ++ [34]).toArray⟩) ∧ Below w.heap.size w w' := by
  have HA : Hid (∀ o, Below w.heap.size w (w.alloc o)) := Lib.hid fun o => (Below.refl _ w).alloc (Nat.le_refl _) o
  have HZ := Lib.hid (zzQuote_any s w.heap.size w.heap.size (w.alloc (.cells #[.pointer none, .slice none 0 0] 75)) hv (.of (Lib.fresh_isBuilder _ _ w)) (by simp) (by simp) (fun W h => hT.below ((HA.out _).trans h)) hs)
  clear hT hv hs
  unfold QuotedPost at HZ
  generalize 34 :: s.data.toList.flatMap encB ++ [34] = l at *
  go_enter Tryd.func15, Tryd.ntmps15
  go_wp2_with fail
  refine HZ.out.mono ?_
  rintro e w2 ⟨rfl, h2, hb2⟩
  have H2 := Lib.hid h2
  have HB2 := Lib.hid ((HA.out _).trans hb2)
  clear h2 hb2 HZ HA
  go_wp2_with fail
  refine (Go.Proofs.Tryd.bld_String_k _ _ l _ H2.out HB2.out.size).mono ?_
  rintro e w3 ⟨rfl, h3, hb3, hk3⟩
  have HB3 := Lib.hid (HB2.out.trans hb3)
  clear h3 hb3 hk3
  go_wp2_with fail
  go_ret
  exact ⟨rfl, HB3.out⟩
theorem isEnc_text (s : ByteArray) : IsEnc s ⟨(34 :: s.data.toList.flatMap encB ++ [34]).toArray⟩ := by
  unfold IsEnc
  simp
end Go.Proofs.YtjpcdbopioblaaaDoor
