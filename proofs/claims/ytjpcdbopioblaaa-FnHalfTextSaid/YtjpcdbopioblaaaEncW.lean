/- A writer of the JSON encoder's, whatever it is: what it holds, what a write leaves. -/
import Derived.Test.YtjpcdbopioblaaaProg
import Derived.WalkKit
import Derived.Lib.OthersKept
import Derived.Lib.Hide
import Derived.Below
namespace Go.Proofs.Ytjpcdbopioblaaa
open Go.RowKit

/-- Blocks that are neither b nor e nor bytes stand as they stood. -/
def EKept (b e : Nat) (w w' : World) : Prop := ∀ k o, w.heap[k]? = some o → k ≠ b → k ≠ e → (∀ c fz, o ≠ .cells c 5 fz) → w'.heap[k]? = some o
theorem EKept.refl (b e : Nat) (w : World) : EKept b e w w := fun _ _ h _ _ _ => h
theorem EKept.trans {b e : Nat} {w1 w2 w3 : World} (h : EKept b e w1 w2) (k : EKept b e w2 w3) : EKept b e w1 w3 := fun i o h1 h2 h3 h4 => k i o (h i o h1 h2 h3 h4) h2 h3 h4
theorem EKept.of_others {b e : Nat} {w w' : World} (h : Lib.OthersKept 5 (some b) w w') : EKept b e w w' := fun k o h1 h2 _ h4 => h k o h1 (fun e => h2 (by injection e)) h4
theorem EKept.of_below {b e : Nat} {w w' : World} (h : Below w.heap.size w w') : EKept b e w w' := fun k _ h1 _ _ _ => (h.block k (Array.getElem?_eq_some_iff.1 h1).1).trans h1
theorem EKept.of_gb {b e : Nat} {w w' : World} (h : w.grownBy w' (some e)) : EKept b e w w' := fun k _ h1 _ h3 _ => (h.block k (Array.getElem?_eq_some_iff.1 h1).1 (fun e => h3 (by injection e))).trans h1
theorem others_below {e : TypeId} {w w' : World} (h : Below w.heap.size w w') : Lib.OthersKept e none w w' := fun k _ h1 _ _ => (h.block k (Array.getElem?_eq_some_iff.1 h1).1).trans h1

/-- A writer: its pointer's type, the functions behind its methods, and what it holds. -/
structure Wr where
  T : TypeId
  fb : Nat
  fs : Nat
  fw : Nat
  Is : Nat → Nat → List UInt8 → World → Prop
/-- What it holds stays when encoders alone are written. -/
structure Wr.Keeps (K : Wr) : Prop where
  kept : ∀ B b l W W', K.Is B b l W → Lib.OthersKept 35 none W W' → K.Is B b l W'
/-- What a write leaves. -/
def Wr.Wrote (K : Wr) (B b : Nat) (l : List UInt8) (w w' : World) : Prop := K.Is B b l w' ∧ Below B w w' ∧ Lib.OthersKept 5 (some b) w w'
structure Wr.Writes (K : Wr) : Prop where
  meth : ∀ (p : Option Addr) (w : World), (method 185 K.T (.pointer p) "Write").run Try.prog w = .ok (K.fw, .pointer p) w
  enter : ∀ args w, (callFunc K.fw args).run Try.prog w = .ok (.enter K.fw args) w
  write : ∀ (B b eb o n cap : Nat) (l t : List UInt8) (cs : Array Value) (w : World), K.Is B b l w → w.heap[eb]? = some (.cells cs 35 (0, 0)) → n = t.length → (∀ j (h : j < t.length), cs[o + j]? = some (.int .u8 (t[j].toNat : Nat))) → l.length + n ≤ 140737488355328 → B ≤ w.heap.size →
    Calls Try.prog K.fw #[.pointer (some ⟨b, 0, none⟩), .slice (some ⟨eb, o, none⟩) n cap] w fun e w' => e = .returned (.tuple #[.int .i64 n, .nilIface]) ∧ K.Wrote B b (l ++ t) w w'
structure Wr.Bytes (K : Wr) : Prop where
  meth : ∀ (p : Option Addr) (w : World), (method 185 K.T (.pointer p) "WriteByte").run Try.prog w = .ok (K.fb, .pointer p) w
  enter : ∀ args w, (callFunc K.fb args).run Try.prog w = .ok (.enter K.fb args) w
  write : ∀ (B b : Nat) (l : List UInt8) (c : UInt8) (w : World), K.Is B b l w → l.length + 1 ≤ 140737488355328 → B ≤ w.heap.size →
    Calls Try.prog K.fb #[.pointer (some ⟨b, 0, none⟩), .int .u8 c.toNat] w fun e w' => e = .returned .nilIface ∧ K.Wrote B b (l ++ [c]) w w'
structure Wr.Strs (K : Wr) : Prop where
  meth : ∀ (p : Option Addr) (w : World), (method 185 K.T (.pointer p) "WriteString").run Try.prog w = .ok (K.fs, .pointer p) w
  enter : ∀ args w, (callFunc K.fs args).run Try.prog w = .ok (.enter K.fs args) w
  write : ∀ (B b : Nat) (l : List UInt8) (s : ByteArray) (w : World), K.Is B b l w → l.length + s.size ≤ 140737488355328 → B ≤ w.heap.size →
    Calls Try.prog K.fs #[.pointer (some ⟨b, 0, none⟩), .string s] w fun e w' => e = .returned (.tuple #[.int .i64 s.size, .nilIface]) ∧ K.Wrote B b (l ++ s.data.toList) w w'

/-- The encoder in block eb; its writer in block b holds these bytes. -/
structure EncS (K : Wr) (B b eb : Nat) (l : List UInt8) (W : World) : Prop where
  bld : K.Is B b l W
  enc : ∃ cs : Array Value, W.heap[eb]? = some (.cells cs 35 (0, 0)) ∧ cs[0]? = some (.iface K.T (.pointer (some ⟨b, 0, none⟩))) ∧ cs.size = 65
  ne : eb ≠ b
  lo : B ≤ eb
  size : B ≤ W.heap.size
theorem EncS.iface {K : Wr} {B b eb : Nat} {l : List UInt8} {W : World} (h : EncS K B b eb l W) : W.cell? ⟨eb, 0, none⟩ = some (.iface K.T (.pointer (some ⟨b, 0, none⟩))) := by
  obtain ⟨cs, h1, h2, _⟩ := h.enc
  simp [World.cell?, h1, h2]
theorem EncS.wrote {K : Wr} {B b eb : Nat} {l l' : List UInt8} {W W' : World} (h : EncS K B b eb l W) (hw : K.Wrote B b l' W W') : EncS K B b eb l' W' := by
  obtain ⟨hb, hB, hk⟩ := hw
  obtain ⟨cs, h1, h2, h3⟩ := h.enc
  exact ⟨hb, ⟨cs, hk eb _ h1 (fun e => h.ne (by injection e)) (fun c fz e => by injection e with _ e _; cases e), h2, h3⟩, h.ne, h.lo, Nat.le_trans h.size hB.size⟩
theorem EncS.below {K : Wr} (hK : K.Keeps) {B b eb : Nat} {l : List UInt8} {W W' : World} (h : EncS K B b eb l W) (hb : Below W.heap.size W W') : EncS K B b eb l W' := by
  obtain ⟨cs, h1, h2, h3⟩ := h.enc
  exact ⟨hK.kept _ _ _ _ _ h.bld (others_below hb), ⟨cs, (hb.block eb (Array.getElem?_eq_some_iff.1 h1).1).trans h1, h2, h3⟩, h.ne, h.lo, Nat.le_trans h.size hb.size⟩
theorem EncS.drew {K : Wr} (hK : K.Keeps) {B b eb : Nat} {l : List UInt8} {W : World} (h : EncS K B b eb l W) : EncS K B b eb l W.drew := h.below hK (Below.refl _ W).drew
/-- What a function of the encoder's leaves. -/
def EncPost (K : Wr) (B b eb : Nat) (l : List UInt8) (w : World) (e : Ending) (w' : World) : Prop := e = .returned (.tuple #[]) ∧ EncS K B b eb l w' ∧ Below B w w' ∧ EKept b eb w w'
end Go.Proofs.Ytjpcdbopioblaaa
