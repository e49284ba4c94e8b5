/- Texts of this proof laid together by a program: EncW, Base, DecPlain, DecVal, DecHalf, DecMem, DecTrim, DecHalfW, DecShift. -/
import Derived.Test.YtjpcdbopioblaaaGreatDoorProg
import Derived.WalkKit
import Derived.Lib.OthersKept
import Derived.Lib.Hide
import Derived.Below
import Derived.Test.YtjpcdbopioblaaaGreatDoorRows
import Derived.WalkSpells
import Derived.WalkLawsBesides
import Derived.Lib.ValidU
import Derived.Shelf.Unicode.DecodeSlow
import Derived.BigQuiet
import Derived.Deep.QuietTactic
import Derived.Deep.DeepCutAuto
import Derived.Deep.CutBlock
import Derived.Deep.LoopGhost
import Derived.Lib.BufferMore
import Derived.Lib.BufSteps
import Derived.Laws.Bits64b
/- A writer of the JSON encoder's, whatever it is: what it holds, what a write leaves. -/
namespace Go.Proofs.YtjpcdbopioblaaaGreatDoor
open Go.RowKit

/-- Blocks that are neither b nor e nor bytes stand as they stood. -/
def EKept (b e : Nat) (w w' : World) : Prop := ∀ k o, w.heap[k]? = some o → k ≠ b → k ≠ e → (∀ c fz, o ≠ .cells c 5 fz) → w'.heap[k]? = some o
theorem EKept.refl (b e : Nat) (w : World) : EKept b e w w := fun _ _ h _ _ _ => h
theorem EKept.trans {b e : Nat} {w1 w2 w3 : World} (h : EKept b e w1 w2) (k : EKept b e w2 w3) : EKept b e w1 w3 := fun i o h1 h2 h3 h4 => k i o (h i o h1 h2 h3 h4) h2 h3 h4
theorem EKept.of_others {b e : Nat} {w w' : World} (h : Lib.OthersKept 5 (some b) w w') : EKept b e w w' := fun k o h1 h2 _ h4 => h k o h1 (fun e => h2 (by injection e)) h4
theorem EKept.of_below {b e : Nat} {w w' : World} (h : Below w.heap.size w w') : EKept b e w w' := fun k _ h1 _ _ _ => (h.block k (Array.getElem?_eq_some_iff.1 h1).1).trans h1
theorem EKept.of_gb {b e : Nat} {w w' : World} (h : w.grownBy w' (some e)) : EKept b e w w' := fun k _ h1 _ h3 _ => (h.block k (Array.getElem?_eq_some_iff.1 h1).1 (fun e => h3 (by injection e))).trans h1
theorem others_below {e : TypeId} {w w' : World} (h : Below w.heap.size w w') : Lib.OthersKept e none w w' := fun k _ h1 _ _ => (h.block k (Array.getElem?_eq_some_iff.1 h1).1).trans h1

/-- A writer: its pointer's type, the functions behind its methods, and what it holds. -/
structure Wr where
  T : TypeId
  fb : Nat
  fs : Nat
  fw : Nat
  Is : Nat → Nat → List UInt8 → World → Prop
/-- What it holds stays when encoders alone are written. -/
structure Wr.Keeps (K : Wr) : Prop where
  kept : ∀ B b l W W', K.Is B b l W → Lib.OthersKept 105 none W W' → K.Is B b l W'
/-- What a write leaves. -/
def Wr.Wrote (K : Wr) (B b : Nat) (l : List UInt8) (w w' : World) : Prop := K.Is B b l w' ∧ Below B w w' ∧ Lib.OthersKept 5 (some b) w w'
structure Wr.Writes (K : Wr) : Prop where
  meth : ∀ (p : Option Addr) (w : World), (method 412 K.T (.pointer p) "Write").run Tryz.prog w = .ok (K.fw, .pointer p) w
  enter : ∀ args w, (callFunc K.fw args).run Tryz.prog w = .ok (.enter K.fw args) w
  write : ∀ (B b eb o n cap : Nat) (l t : List UInt8) (cs : Array Value) (w : World), K.Is B b l w → w.heap[eb]? = some (.cells cs 105 (0, 0)) → n = t.length → (∀ j (h : j < t.length), cs[o + j]? = some (.int .u8 (t[j].toNat : Nat))) → l.length + n ≤ 140737488355328 → B ≤ w.heap.size →
    Calls Tryz.prog K.fw #[.pointer (some ⟨b, 0, none⟩), .slice (some ⟨eb, o, none⟩) n cap] w fun e w' => e = .returned (.tuple #[.int .i64 n, .nilIface]) ∧ K.Wrote B b (l ++ t) w w'
structure Wr.Bytes (K : Wr) : Prop where
  meth : ∀ (p : Option Addr) (w : World), (method 412 K.T (.pointer p) "WriteByte").run Tryz.prog w = .ok (K.fb, .pointer p) w
  enter : ∀ args w, (callFunc K.fb args).run Tryz.prog w = .ok (.enter K.fb args) w
  write : ∀ (B b : Nat) (l : List UInt8) (c : UInt8) (w : World), K.Is B b l w → l.length + 1 ≤ 140737488355328 → B ≤ w.heap.size →
    Calls Tryz.prog K.fb #[.pointer (some ⟨b, 0, none⟩), .int .u8 c.toNat] w fun e w' => e = .returned .nilIface ∧ K.Wrote B b (l ++ [c]) w w'
structure Wr.Strs (K : Wr) : Prop where
  meth : ∀ (p : Option Addr) (w : World), (method 412 K.T (.pointer p) "WriteString").run Tryz.prog w = .ok (K.fs, .pointer p) w
  enter : ∀ args w, (callFunc K.fs args).run Tryz.prog w = .ok (.enter K.fs args) w
  write : ∀ (B b : Nat) (l : List UInt8) (s : ByteArray) (w : World), K.Is B b l w → l.length + s.size ≤ 140737488355328 → B ≤ w.heap.size →
    Calls Tryz.prog K.fs #[.pointer (some ⟨b, 0, none⟩), .string s] w fun e w' => e = .returned (.tuple #[.int .i64 s.size, .nilIface]) ∧ K.Wrote B b (l ++ s.data.toList) w w'

/-- The encoder in block eb; its writer in block b holds these bytes. -/
structure EncS (K : Wr) (B b eb : Nat) (l : List UInt8) (W : World) : Prop where
  bld : K.Is B b l W
  enc : ∃ cs : Array Value, W.heap[eb]? = some (.cells cs 105 (0, 0)) ∧ cs[0]? = some (.iface K.T (.pointer (some ⟨b, 0, none⟩))) ∧ cs.size = 65
  ne : eb ≠ b
  lo : B ≤ eb
  size : B ≤ W.heap.size
theorem EncS.iface {K : Wr} {B b eb : Nat} {l : List UInt8} {W : World} (h : EncS K B b eb l W) : W.cell? ⟨eb, 0, none⟩ = some (.iface K.T (.pointer (some ⟨b, 0, none⟩))) := by
  obtain ⟨cs, h1, h2, _⟩ := h.enc
  simp [World.cell?, h1, h2]
theorem EncS.wrote {K : Wr} {B b eb : Nat} {l l' : List UInt8} {W W' : World} (h : EncS K B b eb l W) (hw : K.Wrote B b l' W W') : EncS K B b eb l' W' := by
  obtain ⟨hb, hB, hk⟩ := hw
  obtain ⟨cs, h1, h2, h3⟩ := h.enc
  exact ⟨hb, ⟨cs, hk eb _ h1 (fun e => h.ne (by injection e)) (fun c fz e => by injection e with _ e _; cases e), h2, h3⟩, h.ne, h.lo, Nat.le_trans h.size hB.size⟩
theorem EncS.below {K : Wr} (hK : K.Keeps) {B b eb : Nat} {l : List UInt8} {W W' : World} (h : EncS K B b eb l W) (hb : Below W.heap.size W W') : EncS K B b eb l W' := by
  obtain ⟨cs, h1, h2, h3⟩ := h.enc
  exact ⟨hK.kept _ _ _ _ _ h.bld (others_below hb), ⟨cs, (hb.block eb (Array.getElem?_eq_some_iff.1 h1).1).trans h1, h2, h3⟩, h.ne, h.lo, Nat.le_trans h.size hb.size⟩
theorem EncS.drew {K : Wr} (hK : K.Keeps) {B b eb : Nat} {l : List UInt8} {W : World} (h : EncS K B b eb l W) : EncS K B b eb l W.drew := h.below hK (Below.refl _ W).drew
/-- What a function of the encoder's leaves. -/
def EncPost (K : Wr) (B b eb : Nat) (l : List UInt8) (w : World) (e : Ending) (w' : World) : Prop := e = .returned (.tuple #[]) ∧ EncS K B b eb l w' ∧ Below B w w' ∧ EKept b eb w w'
end Go.Proofs.YtjpcdbopioblaaaGreatDoor

/- The values of the thin package as plain trees, and what it means that they lie in memory: no walk in this text. -/
namespace Go.Proofs.YtjpcdbopioblaaaGreatDoor
open Go.RowKit

/-- impl.Value as a tree. -/
inductive RV where
  | mk (kind half : Int) (text : ByteArray) (list : List RV) (keys : List ByteArray) (vals : List RV)

/-- One byte below the greatest size that a row's arguments may take. -/
def reachN : Nat := 140737488351232

def I64 (x : Int) : Prop := -9223372036854775808 ≤ x ∧ x ≤ 9223372036854775807

/-- The strings of a slice lie in the world from an address on. -/
def KeysAt (w : World) (a : Option Addr) (i : Nat) : List ByteArray → Prop
  | [] => True
  | x :: xs => (∃ b o, a = some ⟨b, o, none⟩ ∧ x.size ≤ reachN ∧ w.cell? ⟨b, o + i, none⟩ = some (.string x)) ∧ KeysAt w a (i + 1) xs

mutual
/-- The tree lies in the world under this value. -/
def RV.Rep (w : World) (v : Value) : RV → Prop
  | .mk k h t l ks vs => ∃ al cl ak ck av cv, v = .agg #[.int .i64 k, .int .i64 h, .string t, .slice al l.length cl, .slice ak ks.length ck, .slice av vs.length cv] ∧
      I64 k ∧ I64 h ∧ t.size ≤ reachN ∧ l.length ≤ reachN ∧ ks.length ≤ reachN ∧ vs.length ≤ reachN ∧ RV.RepL w al 0 l ∧ KeysAt w ak 0 ks ∧ RV.RepL w av 0 vs
/-- The trees of a list lie in the world, six cells each, from place i on. -/
def RV.RepL (w : World) (a : Option Addr) (i : Nat) : List RV → Prop
  | [] => True
  | x :: xs => (∃ b o c0 c1 c2 c3 c4 c5, a = some ⟨b, o, none⟩ ∧ w.cell? ⟨b, o + i * 6, none⟩ = some c0 ∧ w.cell? ⟨b, o + i * 6 + 1, none⟩ = some c1 ∧ w.cell? ⟨b, o + i * 6 + 2, none⟩ = some c2 ∧
      w.cell? ⟨b, o + i * 6 + 3, none⟩ = some c3 ∧ w.cell? ⟨b, o + i * 6 + 4, none⟩ = some c4 ∧ w.cell? ⟨b, o + i * 6 + 5, none⟩ = some c5 ∧ RV.Rep w (.agg #[c0, c1, c2, c3, c4, c5]) x) ∧ RV.RepL w a (i + 1) xs
end

theorem gb_trans {a b c : World} {row : Option Nat} (h : a.grownBy b row) (k : b.grownBy c row) : a.grownBy c row :=
  ⟨k.os.trans h.os, k.tape.trans h.tape, k.output.trans h.output, Nat.le_trans h.size k.size, fun i hi hn => (k.block i (Nat.lt_of_lt_of_le hi h.size) hn).trans (h.block i hi hn)⟩
theorem gb_set {a b : World} {g : Nat} (h : a.grownBy b (some g)) (i : Nat) (v : Value) : a.grownBy (b.setCell ⟨g, i, none⟩ v) (some g) :=
  ⟨h.os, h.tape, h.output, by simpa [World.setCell] using h.size, fun k hk hn => (Below.heap_setCell b ⟨g, i, none⟩ v k (by rintro rfl; exact hn rfl)).trans (h.block k hk hn)⟩
theorem gb_alloc {a b : World} {row : Option Nat} (h : a.grownBy b row) (o : Obj) : a.grownBy (b.alloc o) row :=
  ⟨h.os, h.tape, h.output, Nat.le_trans h.size (by simp), fun k hk hn => (Below.heap_alloc b o k (Nat.lt_of_lt_of_le hk h.size)).trans (h.block k hk hn)⟩
theorem gb_below {a b c : World} {row : Option Nat} (h : a.grownBy b row) (k : Below b.heap.size b c) : a.grownBy c row :=
  ⟨k.os.trans h.os, k.tape.trans h.tape, k.output.trans h.output, Nat.le_trans h.size k.size, fun i hi hn => (k.block i (Nat.lt_of_lt_of_le hi h.size)).trans (h.block i hi hn)⟩
/-- What is written lies in a block that is new to the first world. -/
theorem below_gb {B : Nat} {a b c : World} {g : Nat} (h : Below B a b) (k : b.grownBy c (some g)) (hB : B ≤ b.heap.size) (hg : B ≤ g) : Below B a c :=
  h.grown k hB (fun _ e => by cases e; exact hg)

theorem cell_lt {w : World} {b o : Nat} {v : Value} (h : w.cell? ⟨b, o, none⟩ = some v) : b < w.heap.size := by
  rcases Nat.lt_or_ge b w.heap.size with h' | h'
  · exact h'
  · simp [World.cell?, Array.getElem?_eq_none h'] at h

theorem KeysAt.get {w : World} {a : Option Addr} : ∀ {ks : List ByteArray} {i : Nat}, KeysAt w a i ks → ∀ (j : Nat) (h : j < ks.length), ∃ b o, a = some ⟨b, o, none⟩ ∧ ks[j].size ≤ reachN ∧ w.cell? ⟨b, o + (i + j), none⟩ = some (.string ks[j])
  | _ :: _, i, h, 0, _ => by simpa using h.1
  | _ :: xs, i, h, j + 1, hj => by
    have := KeysAt.get h.2 j (by simpa using hj)
    simpa [Nat.add_assoc, Nat.add_comm 1 j] using this

theorem RV.RepL.get {w : World} {a : Option Addr} : ∀ {l : List RV} {i : Nat}, RV.RepL w a i l → ∀ (j : Nat) (h : j < l.length), ∃ b o c0 c1 c2 c3 c4 c5, a = some ⟨b, o, none⟩ ∧ w.cell? ⟨b, o + (i + j) * 6, none⟩ = some c0 ∧
      w.cell? ⟨b, o + (i + j) * 6 + 1, none⟩ = some c1 ∧ w.cell? ⟨b, o + (i + j) * 6 + 2, none⟩ = some c2 ∧ w.cell? ⟨b, o + (i + j) * 6 + 3, none⟩ = some c3 ∧ w.cell? ⟨b, o + (i + j) * 6 + 4, none⟩ = some c4 ∧
      w.cell? ⟨b, o + (i + j) * 6 + 5, none⟩ = some c5 ∧ l[j].Rep w (.agg #[c0, c1, c2, c3, c4, c5])
  | _ :: _, i, h, 0, _ => by
    unfold RV.RepL at h
    simpa using h.1
  | _ :: xs, i, h, j + 1, hj => by
    unfold RV.RepL at h
    have := RV.RepL.get h.2 j (by simpa using hj)
    simpa [Nat.add_assoc, Nat.add_comm 1 j] using this

theorem KeysAt.below {w w' : World} {a : Option Addr} (hb : Below w.heap.size w w') : ∀ {ks : List ByteArray} {i : Nat}, KeysAt w a i ks → KeysAt w' a i ks
  | [], _, _ => trivial
  | _ :: _, _, ⟨⟨b, o, e, hs, hc⟩, h2⟩ => ⟨⟨b, o, e, hs, (hb.cell (p := ⟨b, _, none⟩) (cell_lt hc)).trans hc⟩, KeysAt.below hb h2⟩

mutual
theorem RV.Rep.below {w w' : World} (hb : Below w.heap.size w w') : ∀ {x : RV} {v : Value}, x.Rep w v → x.Rep w' v
  | .mk k h t l ks vs, v, hr => by
    unfold RV.Rep at hr ⊢
    obtain ⟨al, cl, ak, ck, av, cv, e, h1, h2, h3, h4, h5, h6, h7, h8, h9⟩ := hr
    exact ⟨al, cl, ak, ck, av, cv, e, h1, h2, h3, h4, h5, h6, RV.RepL.below hb h7, h8.below hb, RV.RepL.below hb h9⟩
theorem RV.RepL.below {w w' : World} (hb : Below w.heap.size w w') : ∀ {l : List RV} {a : Option Addr} {i : Nat}, RV.RepL w a i l → RV.RepL w' a i l
  | [], _, _, _ => by unfold RV.RepL; trivial
  | x :: xs, a, i, hr => by
    unfold RV.RepL at hr ⊢
    obtain ⟨⟨b, o, c0, c1, c2, c3, c4, c5, e, h0, h1, h2, h3, h4, h5, hx⟩, hr2⟩ := hr
    have hlt := cell_lt h0
    exact ⟨⟨b, o, c0, c1, c2, c3, c4, c5, e, (hb.cell (p := ⟨b, _, none⟩) hlt).trans h0, (hb.cell (p := ⟨b, _, none⟩) hlt).trans h1, (hb.cell (p := ⟨b, _, none⟩) hlt).trans h2, (hb.cell (p := ⟨b, _, none⟩) hlt).trans h3,
      (hb.cell (p := ⟨b, _, none⟩) hlt).trans h4, (hb.cell (p := ⟨b, _, none⟩) hlt).trans h5, RV.Rep.below hb hx⟩, RV.RepL.below hb hr2⟩
end

/-- The keys rise. -/
def KeysUp (ks : List ByteArray) : Prop := ∀ i (h : i + 1 < ks.length), Op.bytesLess ks[i].toList ks[i + 1].toList = true

mutual
/-- What the reference's Fit asks of a value. -/
def RV.Good : RV → Prop
  | .mk k h t l ks vs => 0 ≤ k ∧ k ≤ 6 ∧ (k = 3 ∨ h = 0) ∧ (k = 4 ∨ t = ByteArray.empty) ∧ (k = 5 ∨ l = []) ∧ (k = 6 ∨ ks = []) ∧ ks.length = vs.length ∧
      -18014398509481984 ≤ h ∧ h ≤ 18014398509481984 ∧ (h % 2 = 0 ∨ (-9007199254740992 < h ∧ h < 9007199254740992)) ∧ Lib.validD t.data.toList = true ∧ RV.GoodL l ∧ (∀ x ∈ ks, Lib.validD x.data.toList = true) ∧ KeysUp ks ∧ RV.GoodL vs
def RV.GoodL : List RV → Prop
  | [] => True
  | x :: xs => x.Good ∧ RV.GoodL xs
end
mutual
/-- How many values a value holds. -/
def RV.nodes : RV → Nat
  | .mk _ _ _ l _ vs => 1 + RV.nodesL l + RV.nodesL vs
def RV.nodesL : List RV → Nat
  | [] => 0
  | x :: xs => x.nodes + RV.nodesL xs
end
def keysSize : List ByteArray → Nat
  | [] => 0
  | x :: xs => x.size + keysSize xs
mutual
/-- How many bytes its texts have. -/
def RV.bytes : RV → Nat
  | .mk _ _ t l ks vs => t.size + RV.bytesL l + keysSize ks + RV.bytesL vs
def RV.bytesL : List RV → Nat
  | [] => 0
  | x :: xs => x.bytes + RV.bytesL xs
end

theorem RV.GoodL.take_succ {l : List RV} {j : Nat} (h : j < l.length) : RV.GoodL (l.take (j + 1)) ↔ RV.GoodL (l.take j) ∧ l[j].Good := by
  induction l generalizing j with
  | nil => simp at h
  | cons x xs ih =>
    cases j with
    | zero => simp [RV.GoodL]
    | succ j => simp only [List.take_succ_cons, RV.GoodL, List.getElem_cons_succ]; rw [ih (by simpa using h)]; constructor <;> (rintro ⟨a, b⟩; first | exact ⟨⟨a, b.1⟩, b.2⟩ | exact ⟨a.1, a.2, b⟩)
theorem RV.nodesL_take_succ {l : List RV} {j : Nat} (h : j < l.length) : RV.nodesL (l.take (j + 1)) = RV.nodesL (l.take j) + l[j].nodes := by
  induction l generalizing j with
  | nil => simp at h
  | cons x xs ih =>
    cases j with
    | zero => simp [RV.nodesL]
    | succ j => simp only [List.take_succ_cons, RV.nodesL, List.getElem_cons_succ]; rw [ih (by simpa using h)]; omega
theorem RV.bytesL_take_succ {l : List RV} {j : Nat} (h : j < l.length) : RV.bytesL (l.take (j + 1)) = RV.bytesL (l.take j) + l[j].bytes := by
  induction l generalizing j with
  | nil => simp at h
  | cons x xs ih =>
    cases j with
    | zero => simp [RV.bytesL]
    | succ j => simp only [List.take_succ_cons, RV.bytesL, List.getElem_cons_succ]; rw [ih (by simpa using h)]; omega
theorem keysSize_take_succ {l : List ByteArray} {j : Nat} (h : j < l.length) : keysSize (l.take (j + 1)) = keysSize (l.take j) + l[j].size := by
  induction l generalizing j with
  | nil => simp at h
  | cons x xs ih =>
    cases j with
    | zero => simp [keysSize]
    | succ j => simp only [List.take_succ_cons, keysSize, List.getElem_cons_succ]; rw [ih (by simpa using h)]; omega
theorem RV.nodes_le {l : List RV} {j : Nat} (h : j < l.length) : l[j].nodes ≤ RV.nodesL l := by
  induction l generalizing j with
  | nil => simp at h
  | cons x xs ih =>
    cases j with
    | zero => simp [RV.nodesL]
    | succ j => simp only [List.getElem_cons_succ, RV.nodesL]; have := ih (j := j) (by simpa using h); omega
theorem RV.nodes_pos : ∀ (x : RV), 0 < x.nodes
  | .mk _ _ _ _ _ _ => by unfold RV.nodes; omega

end Go.Proofs.YtjpcdbopioblaaaGreatDoor

/- Decimals as lists of digits: their values, division by a power of two, comparing. No walk, no program. -/
namespace Go.Proofs.YtjpcdbopioblaaaGreatDoor

/-- The number that digits write, the first ones before the others. -/
def numL (l : List Nat) : Nat := l.foldl (fun n d => 10 * n + d) 0
theorem numL_nil : numL [] = 0 := rfl
theorem numL_snoc (l : List Nat) (d : Nat) : numL (l ++ [d]) = 10 * numL l + d := by unfold numL; rw [List.foldl_append]; rfl
/-- .. that the first i ones write, zeros standing behind the last one. -/
def numP (l : List Nat) : Nat → Nat
  | 0 => 0
  | i + 1 => 10 * numP l i + l.getD i 0
theorem numP_take (l : List Nat) : ∀ i, i ≤ l.length → numP l i = numL (l.take i)
  | 0, _ => rfl
  | i + 1, h => by
    rw [List.take_succ_eq_append_getElem (by omega), numL_snoc, ← numP_take l i (by omega)]
    show 10 * numP l i + l.getD i 0 = _
    rw [List.getD_eq_getElem?_getD, List.getElem?_eq_getElem (by omega)]
    rfl
theorem numP_all (l : List Nat) : numP l l.length = numL l := by rw [numP_take l _ (Nat.le_refl _), List.take_length]
theorem numP_more (l : List Nat) (j : Nat) : numP l (l.length + j) = numL l * 10 ^ j := by
  induction j with
  | zero => rw [Nat.add_zero, numP_all]; simp
  | succ j ih =>
    show 10 * numP l (l.length + j) + l.getD (l.length + j) 0 = _
    rw [ih, List.getD_eq_getElem?_getD, List.getElem?_eq_none (by omega)]
    rw [Nat.pow_succ]
    simp
    rw [Nat.mul_left_comm, Nat.mul_comm 10]
def Digs (l : List Nat) : Prop := ∀ d ∈ l, d < 10
theorem Digs.getD {l : List Nat} (h : Digs l) (i : Nat) : l.getD i 0 < 10 := by
  rw [List.getD_eq_getElem?_getD]
  by_cases hi : i < l.length
  · rw [List.getElem?_eq_getElem hi]; exact h _ (List.getElem_mem _)
  · rw [List.getElem?_eq_none (by omega)]; decide
theorem numP_lt {l : List Nat} (h : Digs l) (i : Nat) : numP l i < 10 ^ i := by
  induction i with
  | zero => simp [numP]
  | succ i ih =>
    have := h.getD i
    unfold numP
    rw [Nat.pow_succ]
    omega
/-- From one place to a later one. -/
theorem numP_step {l : List Nat} (h : Digs l) (i j : Nat) : numP l i * 10 ^ j ≤ numP l (i + j) ∧ numP l (i + j) < (numP l i + 1) * 10 ^ j := by
  induction j with
  | zero => simp
  | succ j ih =>
    have hd := h.getD (i + j)
    have e : numP l (i + (j + 1)) = 10 * numP l (i + j) + l.getD (i + j) 0 := rfl
    rw [e, Nat.pow_succ]
    obtain ⟨h1, h2⟩ := ih
    constructor
    · rw [← Nat.mul_assoc]; omega
    · rw [← Nat.mul_assoc]; omega
/-- The first digit is not 0: at least so much. -/
theorem numP_ge {l : List Nat} (h : Digs l) (h0 : l.getD 0 0 ≠ 0) (i : Nat) : 10 ^ i ≤ numP l (i + 1) := by
  have h1 := (numP_step h 1 i).1
  have h2 : numP l 1 = l.getD 0 0 := by simp [numP]
  rw [h2, Nat.add_comm] at h1
  have h3 := Nat.mul_le_mul_right (10 ^ i) (Nat.one_le_iff_ne_zero.2 h0)
  rw [Nat.one_mul] at h3
  exact Nat.le_trans h3 h1

/-- A number's digits. -/
def dig (n : Nat) : List Nat := if _h : n < 10 then [n] else dig (n / 10) ++ [n % 10]
termination_by n
decreasing_by omega
theorem numL_dig (n : Nat) : numL (dig n) = n := by
  induction n using Nat.strongRecOn with
  | ind n ih =>
    unfold dig
    split
    · simp [numL]
    · rw [numL_snoc, ih (n / 10) (by omega)]; omega
theorem digs_dig (n : Nat) : Digs (dig n) := by
  induction n using Nat.strongRecOn with
  | ind n ih =>
    unfold dig
    split
    · intro d hd; simp at hd; omega
    · intro d hd
      rcases List.mem_append.1 hd with hd | hd
      · exact ih (n / 10) (by omega) d hd
      · simp at hd; omega
theorem dig_ne (n : Nat) : dig n ≠ [] := by unfold dig; split <;> simp
theorem dig_first {n : Nat} (hn : 0 < n) : (dig n).getD 0 0 ≠ 0 := by
  induction n using Nat.strongRecOn with
  | ind n ih =>
    unfold dig
    split
    · simp; omega
    · have h := ih (n / 10) (by omega) (by omega)
      have hl : 0 < (dig (n / 10)).length := List.length_pos_iff.2 (dig_ne _)
      rw [List.getD_eq_getElem?_getD, List.getElem?_append_left hl, ← List.getD_eq_getElem?_getD]
      exact h
/-- Digits that begin with no 0 are the number's. -/
theorem dig_unique : ∀ (k : Nat) (l : List Nat), l.length = k + 1 → Digs l → l.getD 0 0 ≠ 0 → l = dig (numL l)
  | 0, l, hl, hd, h0 => by
    obtain ⟨d, rfl⟩ := List.length_eq_one_iff.1 hl
    have : d < 10 := hd d (by simp)
    unfold dig
    rw [dif_pos (by simpa [numL] using this)]
    simp [numL]
  | k + 1, l, hl, hd, h0 => by
    have hne : l ≠ [] := by intro e; rw [e] at hl; simp at hl
    have e := List.dropLast_concat_getLast hne
    have hlen : l.dropLast.length = k + 1 := by rw [List.length_dropLast, hl]; omega
    have hd' : Digs l.dropLast := fun d h => hd d (List.dropLast_subset l h)
    have h0' : l.dropLast.getD 0 0 ≠ 0 := by
      rw [← e, List.getD_eq_getElem?_getD, List.getElem?_append_left (by omega), ← List.getD_eq_getElem?_getD] at h0
      exact h0
    have ih := dig_unique k l.dropLast hlen hd' h0'
    have hg : l.getLast hne < 10 := hd _ (List.getLast_mem hne)
    have hn : numL l = 10 * numL l.dropLast + l.getLast hne := by conv => lhs; rw [← e, numL_snoc]
    have hpos : 0 < numL l.dropLast := by
      have h1 := numP_ge hd' h0' k
      rw [← hlen, numP_all] at h1
      exact Nat.lt_of_lt_of_le (Nat.pow_pos (by decide)) h1
    rw [hn]
    unfold dig
    rw [dif_neg (by omega)]
    have e1 : (10 * numL l.dropLast + l.getLast hne) / 10 = numL l.dropLast := by omega
    have e2 : (10 * numL l.dropLast + l.getLast hne) % 10 = l.getLast hne := by omega
    rw [e1, e2, ← ih]
    exact e.symm
end Go.Proofs.YtjpcdbopioblaaaGreatDoor

/- What a decimal stands for; division, comparing, cutting. No walk, no program. -/
namespace Go.Proofs.YtjpcdbopioblaaaGreatDoor

theorem numP_eq {l l' : List Nat} (h : ∀ i, l.getD i 0 = l'.getD i 0) : ∀ i, numP l i = numP l' i
  | 0 => rfl
  | i + 1 => by show 10 * numP l i + _ = 10 * numP l' i + _; rw [numP_eq h i, h i]
theorem numP_trim (l : List Nat) (i : Nat) : numP (l ++ [0]) i = numP l i := by
  refine numP_eq (fun i => ?_) i
  rw [List.getD_eq_getElem?_getD, List.getD_eq_getElem?_getD]
  rcases Nat.lt_trichotomy i l.length with h | h | h
  · rw [List.getElem?_append_left h]
  · subst h; rw [List.getElem?_append_right (Nat.le_refl _), List.getElem?_eq_none (Nat.le_refl _)]; simp
  · rw [List.getElem?_eq_none (by simp; omega), List.getElem?_eq_none (by omega)]
/-- Behind the last digit. -/
theorem numP_far (l : List Nat) {i t : Nat} (h : l.length ≤ i) : numP l (i + t) = numP l i * 10 ^ t := by
  obtain ⟨u, rfl⟩ : ∃ u, i = l.length + u := ⟨i - l.length, by omega⟩
  rw [Nat.add_assoc, numP_more, numP_more, Nat.pow_add, Nat.mul_assoc]

/-- 0.ds times 10 to the power dp is num / den. -/
def DVal (ds : List Nat) (dp num den : Nat) : Prop := ∃ j, ds.length ≤ dp + j ∧ numP ds (dp + j) * den = num * 10 ^ j
theorem DVal.at {ds : List Nat} {dp num den : Nat} (h : DVal ds dp num den) : ∃ j0, ∀ j, j0 ≤ j → ds.length ≤ dp + j ∧ numP ds (dp + j) * den = num * 10 ^ j := by
  obtain ⟨j0, hl, he⟩ := h
  refine ⟨j0, fun j hj => ⟨by omega, ?_⟩⟩
  obtain ⟨t, rfl⟩ : ∃ t, j = j0 + t := ⟨j - j0, by omega⟩
  rw [← Nat.add_assoc, numP_far ds hl, Nat.mul_right_comm, he, Nat.pow_add, Nat.mul_assoc]
theorem DVal.trim {ds : List Nat} {dp num den : Nat} (h : DVal (ds ++ [0]) dp num den) : DVal ds dp num den := by
  obtain ⟨j, hl, he⟩ := h
  rw [numP_trim] at he
  exact ⟨j, by simp at hl; omega, he⟩
/-- A whole number. -/
theorem DVal.whole (n : Nat) : DVal (dig n) (dig n).length n 1 := ⟨0, by simp, by rw [Nat.add_zero, numP_all, numL_dig]⟩
/-- Division by a power of two. -/
theorem DVal.half {ds out : List Nat} {dp num den k i i0 : Nat} (h : DVal ds dp num den) (hi : ds.length ≤ i) (e : numP ds i = 10 * 2 ^ k * numL out) (hl : out.length + i0 = i) (h0 : i0 ≤ dp + 1) : DVal out (dp + 1 - i0) num (den * 2 ^ k) := by
  obtain ⟨j0, hj⟩ := h.at
  obtain ⟨-, he⟩ := hj (j0 + i) (by omega)
  refine ⟨j0 + i, by omega, ?_⟩
  obtain ⟨t, ht⟩ : ∃ t, dp + (j0 + i) = i + t := ⟨dp + j0, by omega⟩
  have e1 : numP ds (dp + (j0 + i)) = numP ds i * 10 ^ t := by rw [ht, numP_far ds hi]
  have e2 : numP out (dp + 1 - i0 + (j0 + i)) = numL out * 10 ^ (t + 1) := by
    have : dp + 1 - i0 + (j0 + i) = out.length + (t + 1) := by omega
    rw [this, numP_more]
  rw [← he, e1, e2, e, Nat.pow_succ]
  simp only [Nat.mul_assoc, Nat.mul_comm, Nat.mul_left_comm]

/-- A is not greater than B. -/
def LeD (A : List Nat) (a : Nat) (B : List Nat) (b : Nat) : Prop := ∃ j0, ∀ j, j0 ≤ j → numP A (a + j) ≤ numP B (b + j)
theorem LeD.vals {A B : List Nat} {a b n d n' d' : Nat} (h : LeD A a B b) (hA : DVal A a n d) (hB : DVal B b n' d') : n * d' ≤ n' * d := by
  obtain ⟨j0, h0⟩ := h
  obtain ⟨j1, h1⟩ := hA.at
  obtain ⟨j2, h2⟩ := hB.at
  have x0 := h0 (j0 + j1 + j2) (by omega)
  have x1 := (h1 (j0 + j1 + j2) (by omega)).2
  have x2 := (h2 (j0 + j1 + j2) (by omega)).2
  generalize j0 + j1 + j2 = j at *
  have hp : 0 < 10 ^ j := Nat.pow_pos (by decide)
  refine Nat.le_of_mul_le_mul_right (c := 10 ^ j) ?_ hp
  calc n * d' * 10 ^ j = (n * 10 ^ j) * d' := by rw [Nat.mul_right_comm]
    _ = numP A (a + j) * d * d' := by rw [x1]
    _ ≤ numP B (b + j) * d * d' := Nat.mul_le_mul_right _ (Nat.mul_le_mul_right _ x0)
    _ = numP B (b + j) * d' * d := by rw [Nat.mul_right_comm]
    _ = n' * 10 ^ j * d := by rw [x2]
    _ = n' * d * 10 ^ j := by rw [Nat.mul_right_comm]
theorem leD_dp {A B : List Nat} {a b : Nat} (hA : Digs A) (hB : Digs B) (h0 : B.getD 0 0 ≠ 0) (h : a < b) : LeD A a B b := by
  refine ⟨0, fun j _ => ?_⟩
  have h1 := numP_lt hA (a + j)
  have h2 := numP_ge hB h0 (b + j - 1)
  have e : b + j - 1 + 1 = b + j := by omega
  rw [e] at h2
  have h3 : 10 ^ (a + j) ≤ 10 ^ (b + j - 1) := Nat.pow_le_pow_right (by decide) (by omega)
  omega
theorem leD_digit {A B : List Nat} {a i : Nat} (hA : Digs A) (hB : Digs B) (he : numP A i = numP B i) (hlt : A.getD i 0 < B.getD i 0) : LeD A a B a := by
  refine ⟨i + 1, fun j hj => ?_⟩
  obtain ⟨t, ht⟩ : ∃ t, a + j = (i + 1) + t := ⟨a + j - (i + 1), by omega⟩
  rw [ht]
  have h1 := (numP_step hA (i + 1) t).2
  have h2 := (numP_step hB (i + 1) t).1
  have e1 : numP A (i + 1) = 10 * numP A i + A.getD i 0 := rfl
  have e2 : numP B (i + 1) = 10 * numP B i + B.getD i 0 := rfl
  have h3 : (numP A (i + 1) + 1) * 10 ^ t ≤ numP B (i + 1) * 10 ^ t := Nat.mul_le_mul_right _ (by omega)
  omega
theorem leD_same {A B : List Nat} {a n : Nat} (hA : A.length ≤ n) (hB : B.length ≤ n) (he : numP A n = numP B n) : LeD A a B a := by
  refine ⟨n, fun j hj => ?_⟩
  obtain ⟨t, ht⟩ : ∃ t, a + j = n + t := ⟨a + j - n, by omega⟩
  rw [ht, numP_far A hA, numP_far B hB, he]
  exact Nat.le_refl _

theorem numP_last (l : List Nat) : ∀ n, 0 < n → numP l n = 10 * numP l (n - 1) + l.getD (n - 1) 0
  | _ + 1, _ => rfl
/-- What is cut away is not nothing. -/
theorem numP_strict {l : List Nat} (h : Digs l) {n : Nat} (hn : n < l.length) (hlast : l.getD (l.length - 1) 0 ≠ 0) : numP l n * 10 ^ (l.length - n) < numP l l.length := by
  have e : l.length = (l.length - 1) + 1 := by omega
  have h1 := numP_last l l.length (by omega)
  have h2 := (numP_step h n (l.length - 1 - n)).1
  have e2 : n + (l.length - 1 - n) = l.length - 1 := by omega
  rw [e2] at h2
  have e3 : l.length - n = (l.length - 1 - n) + 1 := by omega
  rw [e3, Nat.pow_succ, ← Nat.mul_assoc]
  omega
/-- Halves have one digit at most behind the point. -/
theorem half_len {ds : List Nat} {dp m : Nat} (hv : DVal ds dp m 2) (hlast : ds.getD (ds.length - 1) 0 ≠ 0) (hd : Digs ds) : ds.length ≤ dp + 1 := by
  refine Classical.byContradiction fun hh => ?_
  obtain ⟨j0, hj⟩ := hv.at
  obtain ⟨hl, he⟩ := hj (j0 + ds.length) (by omega)
  have e1 : numP ds (dp + (j0 + ds.length)) = numP ds ds.length * 10 ^ (dp + j0) := by
    have : dp + (j0 + ds.length) = ds.length + (dp + j0) := by omega
    rw [this, numP_far ds (Nat.le_refl _)]
  have e2 : (10 : Nat) ^ (j0 + ds.length) = 10 ^ (ds.length - dp) * 10 ^ (dp + j0) := by rw [← Nat.pow_add]; congr 1; omega
  rw [e1, e2, ← Nat.mul_assoc, Nat.mul_right_comm] at he
  have hp : 0 < 10 ^ (dp + j0) := Nat.pow_pos (by decide)
  have h3 := Nat.eq_of_mul_eq_mul_right hp he
  have e4 : ds.length - dp = (ds.length - dp - 2) + 2 := by omega
  rw [e4, Nat.pow_add] at h3
  have e : ds.length = (ds.length - 1) + 1 := by omega
  have h1 := numP_last ds ds.length (by omega)
  have hg := hd.getD (ds.length - 1)
  rw [h1] at h3
  have h5 : m * (10 ^ (ds.length - dp - 2) * 10 ^ 2) = 20 * (m * (10 ^ (ds.length - dp - 2) * 5)) := by
    rw [show (10 : Nat) ^ 2 = 20 * 5 from rfl]
    simp only [Nat.mul_assoc, Nat.mul_comm, Nat.mul_left_comm]
  omega
end Go.Proofs.YtjpcdbopioblaaaGreatDoor

/- A decimal divided by a power of two, digit by digit; the shortest digits of a half; its text. No walk, no program. -/
namespace Go.Proofs.YtjpcdbopioblaaaGreatDoor

theorem numP_next {ds : List Nat} (hd : Digs ds) {k i : Nat} (h : numP ds i < 2 ^ k) : numP ds (i + 1) < 10 * 2 ^ k := by
  have h1 := hd.getD i
  show 10 * numP ds i + _ < _
  omega
/-- While the quotient's digits are written: n is what is left at place i. -/
structure HB (ds : List Nat) (k i0 i n : Nat) (out : List Nat) : Prop where
  eq : numP ds i = 10 * 2 ^ k * numL out + n
  lt : n < 10 * 2 ^ k
  len : out.length + i0 = i
  digs : Digs out
  none : out = [] → 2 ^ k ≤ n
  first : out ≠ [] → out.getD 0 0 ≠ 0
  div : ds.length ≤ i → (i - ds.length ≤ k ∧ 2 ^ (i - ds.length) ∣ n) ∨ n = 0
theorem HB.start {ds : List Nat} {k i : Nat} (hd : Digs ds) (h0 : 0 < numL ds) (hp : numP ds i < 2 ^ k) (hn : 2 ^ k ≤ numP ds (i + 1)) : HB ds k (i + 1) (i + 1) (numP ds (i + 1)) [] := by
  refine ⟨by rw [numL_nil]; omega, numP_next hd hp, by simp, by intro d hd; simp at hd, fun _ => hn, fun h => absurd rfl h, fun hl => .inl ?_⟩
  have e : numP ds (i + 1) = numL ds * 10 ^ (i + 1 - ds.length) := by
    have : i + 1 = ds.length + (i + 1 - ds.length) := by omega
    conv => lhs; rw [this]
    exact numP_more ds _
  constructor
  · refine Classical.byContradiction fun hk => ?_
    have e2 : numP ds i = numL ds * 10 ^ (i - ds.length) := by
      have : i = ds.length + (i - ds.length) := by omega
      conv => lhs; rw [this]
      exact numP_more ds _
    have h1 : 2 ^ k ≤ 10 ^ (i - ds.length) := Nat.le_trans (Nat.pow_le_pow_left (by decide) k) (Nat.pow_le_pow_right (by decide) (by omega))
    have h2 : 10 ^ (i - ds.length) ≤ numL ds * 10 ^ (i - ds.length) := Nat.le_mul_of_pos_left _ h0
    omega
  · rw [e]
    have h1 : (10 : Nat) ^ (i + 1 - ds.length) = 2 ^ (i + 1 - ds.length) * 5 ^ (i + 1 - ds.length) := by rw [← Nat.mul_pow]
    rw [h1]
    exact Nat.dvd_trans (Nat.dvd_mul_right _ _) (Nat.dvd_mul_left _ _)
theorem HB.step {ds : List Nat} {k i0 i n : Nat} {out : List Nat} (h : HB ds k i0 i n out) (hd : Digs ds) : HB ds k i0 (i + 1) (n % 2 ^ k * 10 + ds.getD i 0) (out ++ [n / 2 ^ k]) := by
  have hg := hd.getD i
  have hp : 0 < 2 ^ k := Nat.pow_pos (by decide)
  have hq : n / 2 ^ k < 10 := Nat.div_lt_of_lt_mul (by have := h.lt; rw [Nat.mul_comm] at this; exact this)
  have hr : n % 2 ^ k < 2 ^ k := Nat.mod_lt _ hp
  have hm := Nat.div_add_mod n (2 ^ k)
  refine ⟨?_, by omega, by have := h.len; simp; omega, ?_, fun e => absurd e (by simp), fun _ => ?_, fun hl => ?_⟩
  · show 10 * numP ds i + _ = _
    rw [h.eq, numL_snoc]
    have e : 10 * 2 ^ k * (10 * numL out + n / 2 ^ k) = 10 * (10 * 2 ^ k * numL out) + 10 * (2 ^ k * (n / 2 ^ k)) := by
      rw [Nat.mul_add]
      simp only [Nat.mul_assoc, Nat.mul_comm, Nat.mul_left_comm]
    rw [e]
    omega
  · intro d hdd
    rcases List.mem_append.1 hdd with hdd | hdd
    · exact h.digs d hdd
    · simp at hdd; omega
  · cases out with
    | nil =>
      have := h.none rfl
      simp
      have h1 : 1 ≤ n / 2 ^ k := (Nat.le_div_iff_mul_le hp).2 (by omega)
      omega
    | cons a r =>
      have := h.first (by simp)
      simpa using this
  · by_cases hl2 : ds.length ≤ i
    · have e0 : ds.getD i 0 = 0 := by rw [List.getD_eq_getElem?_getD, List.getElem?_eq_none hl2]; rfl
      rw [e0, Nat.add_zero]
      rcases h.div hl2 with ⟨h1, h2⟩ | h1
      · by_cases hk : i - ds.length = k
        · right
          rw [hk] at h2
          rw [Nat.mod_eq_zero_of_dvd h2, Nat.zero_mul]
        · left
          have e : i + 1 - ds.length = (i - ds.length) + 1 := by omega
          refine ⟨by omega, ?_⟩
          rw [e, Nat.pow_succ]
          have h3 : 2 ^ (i - ds.length) ∣ n % 2 ^ k := (Nat.dvd_mod_iff (Nat.pow_dvd_pow 2 (by omega))).2 h2
          exact Nat.mul_dvd_mul h3 (by decide)
      · right; rw [h1]; simp
    · left
      have : ds.length = i + 1 := by omega
      rw [this, Nat.sub_self]
      exact ⟨Nat.zero_le _, by simp⟩
/-- So many rounds at most. -/
theorem HB.bound {ds : List Nat} {k i0 i n : Nat} {out : List Nat} (h : HB ds k i0 i n out) (hn : i < ds.length ∨ 0 < n) : i < ds.length + k + 1 := by
  rcases hn with hn | hn
  · omega
  · by_cases hl : ds.length ≤ i
    · rcases h.div hl with ⟨h1, _⟩ | h1 <;> omega
    · omega

/-- A half cut short lies half a one below it at least. -/
theorem half_cut {ds : List Nat} {dp m n : Nat} (hd : Digs ds) (hlast : ds.getD (ds.length - 1) 0 ≠ 0) (hv : DVal ds dp m 2) (hn : n < ds.length) : n ≤ dp ∧ 2 * (numP ds n * 10 ^ (dp - n)) + 1 ≤ m ∧ m + 1 ≤ 2 * ((numP ds n + 1) * 10 ^ (dp - n)) := by
  have hl := half_len hv hlast hd
  have hnd : n ≤ dp := by omega
  obtain ⟨j0, hj⟩ := hv.at
  obtain ⟨hl2, he⟩ := hj (j0 + 1) (by omega)
  have hp : 0 < 10 ^ (j0 + 1) := Nat.pow_pos (by decide)
  have hs := numP_strict hd hn hlast
  -- the whole number lies strictly between
  have e1 : numP ds (dp + (j0 + 1)) = numP ds ds.length * 10 ^ (dp + (j0 + 1) - ds.length) := by
    have : dp + (j0 + 1) = ds.length + (dp + (j0 + 1) - ds.length) := by omega
    conv => lhs; rw [this]
    exact numP_far ds (Nat.le_refl _)
  have lo : numP ds n * 10 ^ (dp - n) * 10 ^ (j0 + 1) < numP ds (dp + (j0 + 1)) := by
    rw [e1, Nat.mul_assoc, ← Nat.pow_add]
    have : dp - n + (j0 + 1) = (ds.length - n) + (dp + (j0 + 1) - ds.length) := by omega
    rw [this, Nat.pow_add, ← Nat.mul_assoc]
    exact Nat.mul_lt_mul_of_pos_right hs (Nat.pow_pos (by decide))
  have hi : numP ds (dp + (j0 + 1)) < (numP ds n + 1) * 10 ^ (dp - n) * 10 ^ (j0 + 1) := by
    have h := (numP_step hd n (dp - n + (j0 + 1))).2
    have : n + (dp - n + (j0 + 1)) = dp + (j0 + 1) := by omega
    rw [this] at h
    rw [Nat.mul_assoc, ← Nat.pow_add]
    exact h
  refine ⟨hnd, ?_, ?_⟩
  · refine Classical.byContradiction fun hh => ?_
    have h1 : m ≤ 2 * (numP ds n * 10 ^ (dp - n)) := by omega
    have h2 := Nat.mul_le_mul_right (10 ^ (j0 + 1)) h1
    rw [← he, Nat.mul_assoc] at h2
    omega
  · refine Classical.byContradiction fun hh => ?_
    have h1 : 2 * ((numP ds n + 1) * 10 ^ (dp - n)) ≤ m := by omega
    have h2 := Nat.mul_le_mul_right (10 ^ (j0 + 1)) h1
    rw [← he, Nat.mul_assoc] at h2
    omega
/-- No number with fewer digits lies within. -/
theorem not_down {ds D low : List Nat} {dp m n dpl num den : Nat} (hd : Digs ds) (hlast : ds.getD (ds.length - 1) 0 ≠ 0) (hv : DVal ds dp m 2) (hn : n < ds.length) (hl : D.length ≤ n) (hD : ∀ i, n ≤ i → numP D i = numP ds n * 10 ^ (i - n))
    (hlow : DVal low dpl num den) (hq : (m - 1) * den < 2 * num) : ¬ LeD low dpl D dp := fun h => by
  obtain ⟨h1, h2, _⟩ := half_cut hd hlast hv hn
  have hDv : DVal D dp (numP ds n * 10 ^ (dp - n)) 1 := ⟨0, by omega, by rw [Nat.add_zero, hD dp h1]⟩
  have h3 := h.vals hlow hDv
  generalize numP ds n * 10 ^ (dp - n) = Y at *
  have h4 : 2 * Y * den ≤ (m - 1) * den := Nat.mul_le_mul_right _ (by omega)
  rw [Nat.mul_assoc] at h4
  omega
theorem not_up {ds U high : List Nat} {dp m n dpu dph num den : Nat} (hd : Digs ds) (hlast : ds.getD (ds.length - 1) 0 ≠ 0) (hv : DVal ds dp m 2) (hn : n < ds.length) (hU : DVal U dpu ((numP ds n + 1) * 10 ^ (dp - n)) 1)
    (hhigh : DVal high dph num den) (hq : 2 * num < (m + 1) * den) : ¬ LeD U dpu high dph := fun h => by
  obtain ⟨_, _, h2⟩ := half_cut hd hlast hv hn
  have h3 := h.vals hU hhigh
  generalize (numP ds n + 1) * 10 ^ (dp - n) = Y at *
  have h4 : (m + 1) * den ≤ 2 * Y * den := Nat.mul_le_mul_right _ h2
  rw [Nat.mul_assoc] at h4
  omega

/-- The digits ahead of the point, and the one behind it. -/
theorem half_int {ds : List Nat} {dp m : Nat} (hd : Digs ds) (hlast : ds.getD (ds.length - 1) 0 ≠ 0) (hne : ds ≠ []) (hv : DVal ds dp m 2) : numP ds dp = m / 2 ∧ ds.getD dp 0 = 5 * (m % 2) ∧ (m % 2 = 0 → ds.length ≤ dp) ∧ (m % 2 = 1 → ds.length = dp + 1) := by
  have hl := half_len hv hlast hd
  obtain ⟨j0, hj⟩ := hv.at
  obtain ⟨hl2, he⟩ := hj (j0 + 1) (by omega)
  have e1 : numP ds (dp + (j0 + 1)) = numP ds (dp + 1) * 10 ^ j0 := by
    have : dp + (j0 + 1) = (dp + 1) + j0 := by omega
    rw [this, numP_far ds hl]
  have hp : 0 < 10 ^ j0 := Nat.pow_pos (by decide)
  rw [e1, Nat.pow_succ, Nat.mul_right_comm, ← Nat.mul_assoc, Nat.mul_right_comm m] at he
  have h1 := Nat.eq_of_mul_eq_mul_right hp he
  have h2 : numP ds (dp + 1) = 10 * numP ds dp + ds.getD dp 0 := rfl
  have hg := hd.getD dp
  rw [h2] at h1
  have hpos : 0 < ds.length := List.length_pos_iff.2 hne
  have h3 : numP ds dp = m / 2 := by omega
  have h4 : ds.getD dp 0 = 5 * (m % 2) := by omega
  refine ⟨h3, h4, fun h => ?_, fun h => ?_⟩
  · refine Classical.byContradiction fun hh => ?_
    have e : ds.length - 1 = dp := by omega
    rw [e, h4, h] at hlast
    exact hlast rfl
  · refine Classical.byContradiction fun hh => ?_
    have : ds.getD dp 0 = 0 := by rw [List.getD_eq_getElem?_getD, List.getElem?_eq_none (by omega)]; rfl
    omega
end Go.Proofs.YtjpcdbopioblaaaGreatDoor

/- A decimal in memory; 'digit', 'cmp' and 'trim' walked. -/
namespace Go.Proofs.YtjpcdbopioblaaaGreatDoor
open Go.RowKit

/-- A slice of digits. -/
def DRow (W : World) (v : Value) (ds : List Nat) : Prop := ∃ a c, v = .slice a ds.length c ∧ ds.length ≤ c ∧ ∀ j (h : j < ds.length), ∃ g, a = some ⟨g, 0, none⟩ ∧ W.cell? ⟨g, j, none⟩ = some (.int .u8 (ds[j] : Nat))
/-- A decimal in block b. -/
def DecAt (W : World) (b : Nat) (ds : List Nat) (dp : Int) : Prop := ∃ v, W.heap[b]? = some (.cells #[v, .int .i64 dp] 239 (0, 0)) ∧ DRow W v ds
theorem DecAt.lt {W : World} {b : Nat} {ds : List Nat} {dp : Int} (h : DecAt W b ds dp) : b < W.heap.size := by obtain ⟨v, hb, _⟩ := h; exact lt_of_block hb
theorem DRow.kept {W W' : World} {v : Value} {ds : List Nat} (h : DRow W v ds) (hb : Below W.heap.size W W') : DRow W' v ds := by
  obtain ⟨a, c, e, hle, hc⟩ := h
  refine ⟨a, c, e, hle, fun j hj => ?_⟩
  obtain ⟨g, e2, hg⟩ := hc j hj
  exact ⟨g, e2, (hb.cell (p := ⟨g, j, none⟩) (cell_lt hg)).trans hg⟩
theorem DecAt.kept {W W' : World} {b : Nat} {ds : List Nat} {dp : Int} (h : DecAt W b ds dp) (hb : Below W.heap.size W W') : DecAt W' b ds dp := by
  have hlt := h.lt
  obtain ⟨v, hv, hr⟩ := h
  exact ⟨v, (hb.block b hlt).trans hv, hr.kept hb⟩
theorem DecAt.open {W : World} {b : Nat} {ds : List Nat} {dp : Int} (h : DecAt W b ds dp) : ∃ a c, W.cell? ⟨b, 0, none⟩ = some (.slice a ds.length c) ∧ W.cell? ⟨b, 1, none⟩ = some (.int .i64 dp) ∧ ∀ j (h : j < ds.length), ∃ g, a = some ⟨g, 0, none⟩ ∧ W.cell? ⟨g, j, none⟩ = some (.int .u8 (ds[j] : Nat)) := by
  obtain ⟨v, hv, a, c, rfl, _, hr⟩ := h
  exact ⟨a, c, by simp [World.cell?, hv], by simp [World.cell?, hv], hr⟩
theorem DecAt.cap {W : World} {b : Nat} {ds : List Nat} {dp : Int} (h : DecAt W b ds dp) {a : Option Addr} {n c : Nat} (h0 : W.cell? ⟨b, 0, none⟩ = some (.slice a n c)) : ds.length ≤ c := by
  obtain ⟨v, hv, a', c', rfl, hle, _⟩ := h
  have e0 : W.cell? ⟨b, 0, none⟩ = some (.slice a' ds.length c') := by simp [World.cell?, hv]
  rw [h0] at e0
  simp only [Option.some.injEq, Value.slice.injEq] at e0
  omega
theorem DecAt.fr {W : World} {b : Nat} {ds : List Nat} {dp : Int} (h : DecAt W b ds dp) (o : Nat) : W.frozen? ⟨b, o, none⟩ = false := by obtain ⟨v, hv, _⟩ := h; simp [World.frozen?, hv]
theorem gb_drewN {a b : World} {row : Option Nat} (h : a.grownBy b row) (n : Nat) : a.grownBy (b.drewN n) row := ⟨h.os, h.tape, h.output, h.size, h.block⟩
theorem DecAt.drewN {W : World} {b : Nat} {ds : List Nat} {dp : Int} (h : DecAt W b ds dp) (n : Nat) : DecAt (W.drewN n) b ds dp := h

set_option maxRecDepth 100000 in
set_option maxHeartbeats 800000 in
theorem digit_any (b : Nat) (ds : List Nat) (dp : Int) (i : Nat) (w : World) (h : DecAt w b ds dp) :
    Calls Tryz.prog 244 #[.pointer (some ⟨b, 0, none⟩), .int .i64 i] w fun e w' => e = .returned (.int .u8 (ds.getD i 0 : Nat)) ∧ w' = w := by
  obtain ⟨a, c, c0, c1, hc⟩ := h.open
  clear h
  by_cases hlt : i < ds.length
  · obtain ⟨g, rfl, hg⟩ := hc i hlt
    have hj : (i : Int) < (ds.length : Int) := by omega
    have e : ds.getD i 0 = ds[i] := by rw [List.getD_eq_getElem?_getD, List.getElem?_eq_getElem hlt]; rfl
    rw [e]
    generalize ds[i] = d at *
    clear hc e
    go_enter Tryz.func244, Tryz.ntmps244
    go_wp2_with fail
    go_ret
    exact ⟨rfl, rfl⟩
  · have hj : ¬ ((i : Int) < (ds.length : Int)) := by omega
    have e : ds.getD i 0 = 0 := by rw [List.getD_eq_getElem?_getD, List.getElem?_eq_none (by omega)]; rfl
    rw [e]
    clear hc e
    go_enter Tryz.func244, Tryz.ntmps244
    go_wp2_with fail
    go_ret
    exact ⟨rfl, rfl⟩

/-- What 'cmp' tells: not above 0 only where the first one is not greater. -/
def DCmpPost (A B : List Nat) (a b : Int) (w : World) (e : Ending) (w' : World) : Prop := ∃ c : Int, e = .returned (.int .i64 c) ∧ Below w.heap.size w w' ∧ -1000000 ≤ c ∧ c ≤ 1000000 ∧ (0 < c ∨ (A = [] ∨ LeD A a.toNat B b.toNat))
set_option maxRecDepth 100000 in
set_option maxHeartbeats 1600000 in
theorem cmp_any (ba bb : Nat) (A B : List Nat) (a b : Int) (w : World) (hA : DecAt w ba A a) (hB : DecAt w bb B b) (hlA : A.length ≤ 100000) (hlB : B.length ≤ 100000) (ha : 0 ≤ a ∧ a ≤ 100000) (hb : 0 ≤ b ∧ b ≤ 100000) (dA : Digs A) (dB : Digs B) (fB : B ≠ [] → B.getD 0 0 ≠ 0) :
    Calls Tryz.prog 242 #[.pointer (some ⟨ba, 0, none⟩), .pointer (some ⟨bb, 0, none⟩)] w (DCmpPost A B a b w) := by
  have HA := Lib.hid hA
  have HB := Lib.hid hB
  obtain ⟨sa, ca, a0, a1, -⟩ := hA.open
  obtain ⟨sb, cb, b0, b1, -⟩ := hB.open
  have HD := Lib.hid (And.intro dA (And.intro dB fB))
  clear hA hB dA dB fB
  unfold DCmpPost
  by_cases hA0 : A.length = 0
  · have e1 : ((A.length : Int) == 0) = true := by rw [hA0]; rfl
    go_enter Tryz.func242, Tryz.ntmps242
    go_wp2_with fail
    go_quiet (fail)
    go_wp2_with fail
    go_ret
    refine ⟨_, rfl, ⟨rfl, rfl, rfl, Nat.le_refl _, fun _ _ => rfl⟩, ?_, ?_, .inr (.inl (List.eq_nil_of_length_eq_zero hA0))⟩ <;> omega
  · have e1 : ((A.length : Int) == 0) = false := beq_eq_false_iff_ne.2 (by omega)
    by_cases hB0 : B.length = 0
    · have e2 : ((B.length : Int) == 0) = true := by rw [hB0]; rfl
      go_enter Tryz.func242, Tryz.ntmps242
      go_wp2_with fail
      go_quiet (fail)
      go_wp2_with fail
      go_ret
      refine ⟨_, rfl, ⟨rfl, rfl, rfl, Nat.le_refl _, fun _ _ => rfl⟩, ?_, ?_, .inl ?_⟩ <;> omega
    · have e2 : ((B.length : Int) == 0) = false := beq_eq_false_iff_ne.2 (by omega)
      have HB0 : Hid (B ≠ []) := Lib.hid fun e => hB0 (by rw [e]; rfl)
      by_cases hab : a = b
      · subst hab
        have e3 : (a != a) = false := by simp
        clear hA0 hB0
        go_enter Tryz.func242, Tryz.ntmps242
        go_wp2_with fail
        go_quiet (fail)
        have HA1 : Hid (DecAt (w.drewN nq) ba A a) := HA
        have HB1 : Hid (DecAt (w.drewN nq) bb B a) := HB
        have HW : Hid (Below w.heap.size w (w.drewN nq)) := Lib.hid ⟨rfl, rfl, rfl, Nat.le_refl _, fun _ _ => rfl⟩
        clear a0 a1 b0 b1 HA HB
        generalize w.drewN nq = w1 at *
        obtain ⟨sa, ca, a0, a1, -⟩ := HA1.out.open
        obtain ⟨sb, cb, b0, b1, -⟩ := HB1.out.open
        go_wp2_with fail
        go_loopg [5] (A.length + B.length) (fun gk s5 wr => ∃ i : Nat, s5 = .int .i64 i ∧ i ≤ A.length + B.length ∧ gk = A.length + B.length - i ∧ wr = w1 ∧ Hid (numP A i = numP B i))
        case atStart => exact ⟨0, rfl, Nat.zero_le _, rfl, rfl, Lib.hid rfl⟩
        case round =>
          obtain ⟨i, rfl, hi, rfl, rfl, HE⟩ := hrel
          by_cases hlt : i < A.length ∨ i < B.length
          · have HLT : Hid (i < A.length + B.length) := Lib.hid (by omega)
            have hgA := HD.out.1.getD i
            have hgB := HD.out.2.1.getD i
            have hguard : (decide ((i : Int) < (A.length : Int)) || decide ((i : Int) < (B.length : Int))) = true := by simp; omega
            have HGA := Lib.hid fun wx h => digit_any ba A a i wx h
            have HGB := Lib.hid fun wx h => digit_any bb B a i wx h
            have HDG := Lib.hid fun h => leD_digit (a := a.toNat) HD.out.1 HD.out.2.1 HE.out h
            have HST : Hid (A.getD i 0 = B.getD i 0 → numP A (i + 1) = numP B (i + 1)) := Lib.hid fun h => by show 10 * numP A i + _ = 10 * numP B i + _; rw [HE.out, h]
            generalize A.getD i 0 = x at *
            generalize B.getD i 0 = y at *
            clear hguard
            by_cases hxy : x = y
            · subst hxy
              have exy : ((x : Int) != (x : Int)) = false := by simp
              by_cases hla : i < A.length
              · have hj : (i : Int) < (A.length : Int) := by omega
                clear hlt hla
                go_wp2_with fail
                refine (HGA.out _ HA1.out).mono ?_
                rintro e w2 ⟨rfl, rfl⟩
                go_wp2_with fail
                refine (HGB.out _ HB1.out).mono ?_
                rintro e w2 ⟨rfl, rfl⟩
                go_wp2_with fail
                go_roundg (A.length + B.length - (i + 1))
                case measure => have := HLT.out; omega
                case rel => exact ⟨i + 1, by go_num, by have := HLT.out; omega, rfl, rfl, Lib.hid (HST.out (by simp))⟩
              · have hj : ¬ ((i : Int) < (A.length : Int)) := by omega
                have hjb : (i : Int) < (B.length : Int) := by omega
                clear hlt hla
                go_wp2_with fail
                refine (HGA.out _ HA1.out).mono ?_
                rintro e w2 ⟨rfl, rfl⟩
                go_wp2_with fail
                refine (HGB.out _ HB1.out).mono ?_
                rintro e w2 ⟨rfl, rfl⟩
                go_wp2_with fail
                go_roundg (A.length + B.length - (i + 1))
                case measure => have := HLT.out; omega
                case rel => exact ⟨i + 1, by go_num, by have := HLT.out; omega, rfl, rfl, Lib.hid (HST.out (by simp))⟩
            · have exy : ((x : Int) != (y : Int)) = true := by simp; omega
              have HXY := Lib.hid hxy
              clear hxy
              by_cases hla : i < A.length
              · have hj : (i : Int) < (A.length : Int) := by omega
                clear hlt hla
                go_wp2_with fail
                refine (HGA.out _ HA1.out).mono ?_
                rintro e w2 ⟨rfl, rfl⟩
                go_wp2_with fail
                refine (HGB.out _ HB1.out).mono ?_
                rintro e w2 ⟨rfl, rfl⟩
                go_wp2_with fail
                refine (HGA.out _ HA1.out).mono ?_
                rintro e w2 ⟨rfl, rfl⟩
                go_wp2_with fail
                refine (HGB.out _ HB1.out).mono ?_
                rintro e w2 ⟨rfl, rfl⟩
                go_wp2_with fail
                go_ret
                refine ⟨_, rfl, HW.out, ?_, ?_, ?_⟩
                · omega
                · omega
                · rcases Nat.lt_or_gt_of_ne HXY.out with h | h
                  · exact .inr (.inr (HDG.out h))
                  · exact .inl (by omega)
              · have hj : ¬ ((i : Int) < (A.length : Int)) := by omega
                have hjb : (i : Int) < (B.length : Int) := by omega
                clear hlt hla
                go_wp2_with fail
                refine (HGA.out _ HA1.out).mono ?_
                rintro e w2 ⟨rfl, rfl⟩
                go_wp2_with fail
                refine (HGB.out _ HB1.out).mono ?_
                rintro e w2 ⟨rfl, rfl⟩
                go_wp2_with fail
                refine (HGA.out _ HA1.out).mono ?_
                rintro e w2 ⟨rfl, rfl⟩
                go_wp2_with fail
                refine (HGB.out _ HB1.out).mono ?_
                rintro e w2 ⟨rfl, rfl⟩
                go_wp2_with fail
                go_ret
                refine ⟨_, rfl, HW.out, ?_, ?_, ?_⟩
                · omega
                · omega
                · rcases Nat.lt_or_gt_of_ne HXY.out with h | h
                  · exact .inr (.inr (HDG.out h))
                  · exact .inl (by omega)
          · have hj1 : ¬ ((i : Int) < (A.length : Int)) := by omega
            have hj2 : ¬ ((i : Int) < (B.length : Int)) := by omega
            have HL := Lib.hid (leD_same (A := A) (B := B) (a := a.toNat) (n := i) (by omega) (by omega) HE.out)
            clear hlt
            go_wp2_with fail
            go_ret
            exact ⟨0, rfl, HW.out, by omega, by omega, .inr (.inr HL.out)⟩
      · have e3 : (a != b) = true := by simp [hab]
        have hA1 := HA.out
        have hB1 := HB.out
        go_enter Tryz.func242, Tryz.ntmps242
        go_wp2_with fail
        go_quiet (fail)
        go_wp2_with fail
        go_quiet (fail)
        go_wp2_with fail
        go_ret
        refine ⟨_, rfl, ⟨rfl, rfl, rfl, Nat.le_refl _, fun _ _ => rfl⟩, ?_, ?_, ?_⟩
        · omega
        · omega
        · rcases Int.lt_or_gt_of_ne hab with h | h
          · exact .inr (.inr (leD_dp HD.out.1 HD.out.2.1 (HD.out.2.2 HB0.out) (by omega)))
          · exact .inl (by omega)
end Go.Proofs.YtjpcdbopioblaaaGreatDoor

/- 'trim' of a decimal walked: zeros at the end go. -/
namespace Go.Proofs.YtjpcdbopioblaaaGreatDoor
open Go.RowKit

theorem gb_drew {a b : World} {row : Option Nat} (h : a.grownBy b row) : a.grownBy b.drew row := gb_below h (Below.refl _ b).drew
theorem DecAt.cut {W : World} {b : Nat} {cur : List Nat} {x : Nat} {dp : Int} (h : DecAt W b (cur ++ [x]) dp) {a : Option Addr} {c : Nat} (h0 : W.cell? ⟨b, 0, none⟩ = some (.slice a (cur ++ [x]).length c)) : DecAt (W.setCell ⟨b, 0, none⟩ (.slice a cur.length c)) b cur dp := by
  obtain ⟨v, hb, a', c', rfl, hle, hr⟩ := h
  have e0 : W.cell? ⟨b, 0, none⟩ = some (.slice a' (cur ++ [x]).length c') := by simp [World.cell?, hb]
  rw [h0] at e0
  simp only [Option.some.injEq, Value.slice.injEq] at e0
  obtain ⟨rfl, _, rfl⟩ := e0
  refine ⟨.slice a cur.length c, by simpa using Lib.heap_setCell_same hb (i := 0) (.slice a cur.length c), a, c, rfl, by simp at hle; omega, fun j hj => ?_⟩
  obtain ⟨g, e, hg⟩ := hr j (by simp; omega)
  refine ⟨g, e, ?_⟩
  have hne : g ≠ b := by
    rintro rfl
    obtain ⟨g2, e2, hg2⟩ := hr 0 (by simp)
    rw [e] at e2
    simp at e2
    subst e2
    rw [h0] at hg2
    simp at hg2
  rw [World.cell?_setCell_other _ _ _ _ (by intro e; injection e with e; exact hne e.symm), hg]
  simp [List.getElem_append_left hj]
theorem DecAt.zero {W : World} {b : Nat} {dp : Int} (h : DecAt W b [] dp) : DecAt (W.setCell ⟨b, 1, none⟩ (.int .i64 0)) b [] 0 := by
  obtain ⟨v, hb, a, c, rfl, _⟩ := h
  exact ⟨_, by simpa using Lib.heap_setCell_same hb (i := 1) (.int .i64 0), a, c, rfl, by simp, fun j hj => absurd hj (by simp)⟩

def TrimPost (b : Nat) (ds : List Nat) (dp : Int) (w : World) (e : Ending) (w' : World) : Prop := ∃ cur r, ds = cur ++ List.replicate r 0 ∧ (cur ≠ [] → cur.getD (cur.length - 1) 0 ≠ 0) ∧ e = .returned (.pointer (some ⟨b, 0, none⟩)) ∧ DecAt w' b cur (if cur = [] then 0 else dp) ∧ w.grownBy w' (some b)
set_option maxRecDepth 100000 in
set_option maxHeartbeats 1600000 in
theorem trim_any (b : Nat) (ds : List Nat) (dp : Int) (w : World) (h : DecAt w b ds dp) (hl : ds.length ≤ 100000) :
    Calls Tryz.prog 237 #[.pointer (some ⟨b, 0, none⟩)] w (TrimPost b ds dp w) := by
  have H := Lib.hid h
  clear h
  unfold TrimPost
  go_enter Tryz.func237, Tryz.ntmps237
  go_wp2_with fail
  go_loopg [] (ds.length) (fun gk wr => ∃ (cur : List Nat) (r : Nat), gk = cur.length ∧ Hid (ds = cur ++ List.replicate r 0) ∧ Hid (DecAt wr b cur dp) ∧ Hid (w.grownBy wr (some b)))
  case atStart => exact ⟨ds, 0, rfl, Lib.hid (by simp), H, Lib.hid (World.grownBy.refl w _)⟩
  case round =>
    obtain ⟨cur, r, rfl, HD, HR, HG⟩ := hrel
    clear H
    have HL : Hid (cur.length ≤ 100000) := Lib.hid (by have := congrArg List.length HD.out; simp at this; omega)
    rcases List.eq_nil_or_concat cur with rfl | ⟨pre, x, rfl⟩
    · obtain ⟨a, c, c0, c1, -⟩ := HR.out.open
      simp only [List.length_nil] at c0
      go_wp2_with fail
      go_quiet (fail)
      have HR1 : Hid (DecAt (wr.drewN nq) b [] dp) := HR
      have HG1 : Hid (w.grownBy (wr.drewN nq) (some b)) := Lib.hid (gb_drewN HG.out nq)
      clear c0 c1 HR HG
      generalize wr.drewN nq = w1 at *
      obtain ⟨a, c, c0, c1, -⟩ := HR1.out.open
      simp only [List.length_nil] at c0
      have f1 := HR1.out.fr 1
      have HZ := Lib.hid HR1.out.zero
      have HGZ := Lib.hid (gb_set HG1.out 1 (.int .i64 0))
      go_wp2_with fail
      go_ret
      exact ⟨[], r, HD.out, fun h => absurd rfl h, rfl, by simpa using HZ.out, HGZ.out⟩
    · simp only [List.concat_eq_append] at HD HR HL ⊢
      obtain ⟨a, c, c0, c1, hcell⟩ := HR.out.open
      obtain ⟨g, rfl, hg⟩ := hcell pre.length (by simp)
      simp only [List.length_append, List.length_cons, List.length_nil, List.getElem_concat_length, Nat.zero_add] at c0 hg
      clear hcell
      have hn : pre.length ≤ 100000 := by have := HL.out; simp at this; omega
      by_cases hx : x = 0
      · subst hx
        have e0 : (((0 : Nat) : Int) == 0) = true := rfl
        go_wp2_with fail
        go_quiet (fail)
        have HR1 : Hid (DecAt (wr.drewN nq) b (pre ++ [0]) dp) := HR
        have HG1 : Hid (w.grownBy (wr.drewN nq) (some b)) := Lib.hid (gb_drewN HG.out nq)
        have hc1 : (wr.drewN nq).cell? ⟨b, 0, none⟩ = some (.slice (some ⟨g, 0, none⟩) (pre.length + 1) c) := c0
        clear c0 c1 hg HR HG
        generalize wr.drewN nq = w1 at *
        have c0 := hc1
        have f0 := HR1.out.fr 0
        have HC := Lib.hid (HR1.out.cut (by simpa using hc1))
        have hcap : pre.length ≤ c := by have := HR1.out.cap hc1; simp at this; omega
        have hcap' : (pre.length : Int) ≤ (c : Int) := by omega
        have hcap0 : (0 : Int) ≤ (pre.length : Int) := by omega
        have hwr : IntKind.i64.wrap (pre.length : Int) = (pre.length : Int) := IntWalk.i64_in _ (by omega)
        clear hc1
        go_wp2_with fail
        go_region
        all_goals (
          clear hwr
          go_wp2_with fail
          go_roundg (pre.length)
          case measure => simp
          case rel => exact ⟨pre, r + 1, rfl, Lib.hid (by rw [HD.out, List.append_assoc]; rfl), HC, Lib.hid (gb_drew (gb_set HG1.out _ _))⟩)
      · have ex : ((x : Int) == 0) = false := beq_eq_false_iff_ne.2 (by omega)
        have HX := Lib.hid hx
        clear hx
        go_wp2_with fail
        go_quiet (fail)
        have HR1 : Hid (DecAt (wr.drewN nq) b (pre ++ [x]) dp) := HR
        have HG1 : Hid (w.grownBy (wr.drewN nq) (some b)) := Lib.hid (gb_drewN HG.out nq)
        have hc1 : (wr.drewN nq).cell? ⟨b, 0, none⟩ = some (.slice (some ⟨g, 0, none⟩) (pre.length + 1) c) := c0
        clear c0 c1 hg HR HG
        generalize wr.drewN nq = w1 at *
        have en : (((pre.length : Int) + 1) == 0) = false := beq_eq_false_iff_ne.2 (by omega)
        go_wp2_with fail
        go_ret
        exact ⟨pre ++ [x], r, HD.out, fun _ => by simpa using HX.out, rfl, by simpa using HR1.out, HG1.out⟩
end Go.Proofs.YtjpcdbopioblaaaGreatDoor

/- 'half' of a decimal walked: division by a power of two. -/
namespace Go.Proofs.YtjpcdbopioblaaaGreatDoor
open Go.RowKit

/-- Digits as cells. -/
def dgCells (l : List Nat) : List Value := l.map fun d => Value.int .u8 (d : Nat)
theorem drow_of {B : Nat} {v : Value} {l : List Nat} {w : World} (h : w.ownsRowF B 5 1 v l.length (dgCells l)) : DRow w v l := by
  obtain ⟨hl, ⟨rfl, h0⟩ | ⟨g, cap, cur, fz, rfl, hb, hg, hf, hn, hc, hcs, htk⟩⟩ := h
  · have : l = [] := List.eq_nil_of_length_eq_zero h0
    subst this
    exact ⟨none, 0, rfl, Nat.le_refl _, fun j hj => absurd hj (by simp)⟩
  · refine ⟨_, cap, rfl, hn, fun j hj => ⟨g, rfl, ?_⟩⟩
    have h1 : (cur.toList.take (l.length * 1))[j]? = some (.int .u8 (l[j] : Nat)) := by
      rw [htk]; simp [dgCells, List.getElem?_eq_getElem hj]
    rw [List.getElem?_take_of_lt (by omega)] at h1
    simp only [World.cell?, hg]
    simpa using h1
theorem byteInfo : ∃ i : TypeInfo, Tryz.prog.info? 5 = some i ∧ i.zero = some (.int .u8 0) ∧ i.size = 1 ∧ i.bytes = 1 := by
  have hinfo : (Tryz.prog.info? 5).map (fun i => (i.zero, i.size, i.bytes)) = some (some (Value.int IntKind.u8 0), 1, 1) := by kernel_rfl
  obtain ⟨i, hi, he⟩ := Option.map_eq_some_iff.1 hinfo
  simp only [Prod.mk.injEq] at he
  exact ⟨i, hi, he.1, he.2.1, he.2.2⟩
theorem DecAt.put {W : World} {b : Nat} {ds ds' : List Nat} {dp : Int} {v : Value} (h : DecAt W b ds dp) (hv : DRow W v ds') (hne : ∀ g, v.ownBlock = some g → g ≠ b) : DecAt (W.setCell ⟨b, 0, none⟩ v) b ds' dp := by
  obtain ⟨v0, hb, _⟩ := h
  obtain ⟨a, c, rfl, hle, hr⟩ := hv
  refine ⟨.slice a ds'.length c, by simpa using Lib.heap_setCell_same hb (i := 0) (.slice a ds'.length c), a, c, rfl, hle, fun j hj => ?_⟩
  obtain ⟨g, rfl, hg⟩ := hr j hj
  refine ⟨g, rfl, ?_⟩
  have hgb := hne g rfl
  rw [World.cell?_setCell_other _ _ _ _ (by intro e; injection e with e; exact hgb e.symm), hg]
theorem DecAt.setDp {W : World} {b : Nat} {ds : List Nat} {dp : Int} (h : DecAt W b ds dp) (dp' : Int) : DecAt (W.setCell ⟨b, 1, none⟩ (.int .i64 dp')) b ds dp' := by
  obtain ⟨v0, hb, a, c, rfl, hle, hr⟩ := h
  refine ⟨_, by simpa using Lib.heap_setCell_same hb (i := 1) (.int .i64 dp'), a, c, rfl, hle, fun j hj => ?_⟩
  obtain ⟨g, rfl, hg⟩ := hr j hj
  refine ⟨g, rfl, ?_⟩
  have hne : (⟨b, 1, none⟩ : Addr) ≠ ⟨g, j, none⟩ := by
    intro e
    simp at e
    obtain ⟨rfl, rfl⟩ := e
    simp [World.cell?, hb] at hg
  rw [World.cell?_setCell_other _ _ _ _ hne, hg]

theorem u64w (x : Nat) (h : x < 18446744073709551616) : IntKind.u64.wrap (x : Int) = (x : Int) := IntWalk.u64_in _ (by omega)
/-- What the mask leaves, times ten. -/
theorem mask_facts (n k : Nat) (hn : n < 10 * 2 ^ k) (hk : k ≤ 59) : IntKind.u64.wrap (bits .and .u64 (n : Int) (IntKind.u64.wrap (IntKind.u64.wrap (2 ^ k) - 1)) * 10) = ((n % 2 ^ k * 10 : Nat) : Int) := by
  have hP : 2 ^ k ≤ 576460752303423488 := Nat.le_trans (Nat.pow_le_pow_right (by decide) hk) (by decide)
  have hP0 : 0 < 2 ^ k := Nat.pow_pos (by decide)
  have hm : n % 2 ^ k < 2 ^ k := Nat.mod_lt _ hP0
  have e1 : IntKind.u64.wrap ((2 : Int) ^ k) = ((2 ^ k : Nat) : Int) := by
    rw [show (2 : Int) ^ k = ((2 ^ k : Nat) : Int) by simp]
    exact u64w _ (by omega)
  have e2 : ((2 ^ k : Nat) : Int) - 1 = ((2 ^ k - 1 : Nat) : Int) := by omega
  have e3 : IntKind.u64.wrap ((2 ^ k - 1 : Nat) : Int) = ((2 ^ k - 1 : Nat) : Int) := u64w _ (by omega)
  rw [e1, e2, e3, bits_and_u64_nat n (2 ^ k - 1) (by omega) (by omega), Nat.and_two_pow_sub_one_eq_mod]
  have e4 : ((n % 2 ^ k : Nat) : Int) * 10 = ((n % 2 ^ k * 10 : Nat) : Int) := by simp
  rw [e4]
  exact u64w _ (by omega)
theorem own_snoc {B : Nat} {v : Value} {out : List Nat} {q : Nat} {x : Int} {W0 w : World} (hq : (q : Int) = x) (h : Lib.OwnBuf B 5 v (out.length + 1) (dgCells out ++ [.int .u8 x]) W0 w) : Lib.OwnBuf B 5 v (out ++ [q]).length (dgCells (out ++ [q])) W0 w := by
  have e : dgCells (out ++ [q]) = dgCells out ++ [.int .u8 x] := by simp [dgCells, hq]
  rw [e, List.length_append]
  exact h
theorem half_grown {w W1 wx : World} {b : Nat} {v : Value} (h : w.grownBy W1 (some b)) (hB : Below W1.heap.size W1 wx) (_hz : W1.heap.size ≤ wx.heap.size) : w.grownBy (wx.setCell ⟨b, 0, none⟩ v) (some b) := gb_set (gb_below h hB) 0 v
theorem DVal.trims {ds : List Nat} {dp num den : Nat} : ∀ r, DVal (ds ++ List.replicate r 0) dp num den → DVal ds dp num den
  | 0, h => by simpa using h
  | r + 1, h => by
    rw [List.replicate_succ', ← List.append_assoc] at h
    exact DVal.trims r h.trim
theorem half_end {ds out cur : List Nat} {dp k j i r : Nat} {W : World} {b : Nat} (h : HB ds k (j + 1) i 0 out) (hk : 0 < 2 ^ k) (hi : ¬ ((i : Int) < (ds.length : Int))) (hj : j ≤ dp) (hcur : out = cur ++ List.replicate r 0)
    (hlast : cur ≠ [] → cur.getD (cur.length - 1) 0 ≠ 0) (hdec : DecAt W b cur (if cur = [] then 0 else (dp : Int) - (j : Int))) :
    DecAt W b cur (dp - j : Nat) ∧ Digs cur ∧ cur ≠ [] ∧ cur.getD 0 0 ≠ 0 ∧ cur.getD (cur.length - 1) 0 ≠ 0 ∧ ∀ num den, DVal ds dp num den → DVal cur (dp - j) num (den * 2 ^ k) := by
  have hne : out ≠ [] := fun e => by have := h.none e; omega
  have hf := h.first hne
  have hcn : cur ≠ [] := fun e => by
    rw [hcur, e, List.nil_append] at hf
    cases r with
    | zero => simp at hf
    | succ r => simp [List.replicate_succ] at hf
  have hpos : 0 < cur.length := List.length_pos_iff.2 hcn
  have hf2 : cur.getD 0 0 ≠ 0 := by
    rw [hcur, List.getD_eq_getElem?_getD, List.getElem?_append_left hpos, ← List.getD_eq_getElem?_getD] at hf
    exact hf
  have e : ((dp - j : Nat) : Int) = (dp : Int) - (j : Int) := by omega
  rw [if_neg hcn] at hdec
  refine ⟨by rw [e]; exact hdec, fun d hd => h.digs d (by rw [hcur]; simp [hd]), hcn, hf2, hlast hcn, fun num den hv => ?_⟩
  have h1 := hv.half (k := k) (i := i) (i0 := j + 1) (out := out) (by omega) (by have := h.eq; omega) h.len (by omega)
  have e2 : dp + 1 - (j + 1) = dp - j := by omega
  rw [e2, hcur] at h1
  exact DVal.trims r h1
def HalfPost (b : Nat) (ds : List Nat) (dp k : Nat) (w : World) (e : Ending) (w' : World) : Prop := ∃ (out : List Nat) (dp' : Nat), e = .returned (.tuple #[]) ∧ DecAt w' b out dp' ∧ w.grownBy w' (some b) ∧ Digs out ∧ out ≠ [] ∧ out.getD 0 0 ≠ 0 ∧ out.getD (out.length - 1) 0 ≠ 0 ∧ out.length ≤ ds.length + k + 1 ∧ dp' ≤ dp + 1 ∧ ∀ num den, DVal ds dp num den → DVal out dp' num (den * 2 ^ k)
set_option maxRecDepth 100000 in
set_option maxHeartbeats 3200000 in
theorem dechalf_any (b : Nat) (ds : List Nat) (dp k : Nat) (w : World) (h : DecAt w b ds dp) (hd : Digs ds) (hne : 0 < numL ds) (hbig : 2 ^ k ≤ numP ds (dp + 1)) (hk : k ≤ 59) (hl : ds.length ≤ 1000) (hdp : dp ≤ 1000) :
    Calls Tryz.prog 239 #[.pointer (some ⟨b, 0, none⟩), .int .i64 k] w (HalfPost b ds dp k w) := by
  have H := Lib.hid h
  have HD := Lib.hid (And.intro hd (And.intro hne hbig))
  have hP : 2 ^ k ≤ 576460752303423488 := Nat.le_trans (Nat.pow_le_pow_right (by decide) hk) (by decide)
  have hP0 : 0 < 2 ^ k := Nat.pow_pos (by decide)
  clear h hd hne hbig
  unfold HalfPost
  go_enter Tryz.func239, Tryz.ntmps239
  go_wp2_with fail
  go_loopg [4, 5] (dp + 2) (fun gk s4 s5 wr => ∃ i : Nat, s4 = .int .u64 (numP ds i) ∧ s5 = .int .i64 i ∧ i ≤ dp + 1 ∧ gk = dp + 2 - i ∧ wr = w ∧ Hid (i = 0 ∨ numP ds (i - 1) < 2 ^ k))
  case atStart => exact ⟨0, rfl, rfl, Nat.zero_le _, rfl, rfl, Lib.hid (.inl rfl)⟩
  case round =>
    obtain ⟨i, rfl, rfl, hi, rfl, rfl, HI⟩ := hrel
    have HN : Hid (numP ds (i + 1) = 10 * numP ds i + ds.getD i 0) := Lib.hid rfl
    have HPW : Hid (((2 ^ k : Nat) : Int) = 2 ^ k) := Lib.hid (by simp)
    obtain ⟨a, c, c0, c1, hcell⟩ := H.out.open
    by_cases hlt : numP ds i < 2 ^ k
    · have e0 : (((numP ds i : Nat) : Int) / 2 ^ k == 0) = true := by
        rw [← HPW.out, ← Int.natCast_ediv, Nat.div_eq_of_lt hlt]; rfl
      have HLT := Lib.hid hlt
      have hi2 : Hid (i ≤ dp) := Lib.hid (by
        refine Classical.byContradiction fun hh => ?_
        have : i = dp + 1 := by omega
        rw [this] at hlt
        have := HD.out.2.2
        omega)
      have hb1 : numP ds i ≤ 576460752303423487 := by omega
      by_cases hil : i < ds.length
      · obtain ⟨g, rfl, hg⟩ := hcell i hil
        have hj : (i : Int) < (ds.length : Int) := by omega
        have hj2 : ¬ ((ds.length : Int) ≤ (i : Int)) := by omega
        have e : ds.getD i 0 = ds[i] := by rw [List.getD_eq_getElem?_getD, List.getElem?_eq_getElem hil]; rfl
        have hdg := HD.out.1.getD i
        rw [e] at HN hdg
        have HNX : Hid (numP ds i < 2 ^ k → i + 1 = 0 ∨ numP ds (i + 1 - 1) < 2 ^ k) := Lib.hid fun h => .inr h
        generalize ds[i] = d at *
        generalize numP ds i = N at *
        clear hcell hlt e
        go_wp2_with fail
        go_roundg (dp + 2 - (i + 1))
        case measure => omega
        case rel => exact ⟨i + 1, by rw [HN.out]; congr 1; omega, by go_num, by have := hi2.out; omega, rfl, rfl, Lib.hid (HNX.out HLT.out)⟩
      · have hj : ¬ ((i : Int) < (ds.length : Int)) := by omega
        have hj2 : (ds.length : Int) ≤ (i : Int) := by omega
        have e : ds.getD i 0 = 0 := by rw [List.getD_eq_getElem?_getD, List.getElem?_eq_none (by omega)]; rfl
        have hpos : 0 < numP ds i := by
          have h1 := numP_far ds (i := ds.length) (t := i - ds.length) (Nat.le_refl _)
          have h2 : ds.length + (i - ds.length) = i := by omega
          rw [h2, numP_all] at h1
          rw [h1]
          exact Nat.mul_pos HD.out.2.1 (Nat.pow_pos (by decide))
        have eN : (((numP ds i : Nat) : Int) == 0) = false := beq_eq_false_iff_ne.2 (by omega)
        rw [e] at HN
        have HNX : Hid (numP ds i < 2 ^ k → i + 1 = 0 ∨ numP ds (i + 1 - 1) < 2 ^ k) := Lib.hid fun h => .inr h
        generalize numP ds i = N at *
        clear hcell hlt e hpos
        go_wp2_with fail
        go_roundg (dp + 2 - (i + 1))
        case measure => omega
        case rel => exact ⟨i + 1, by rw [HN.out]; congr 1; omega, by go_num, by have := hi2.out; omega, rfl, rfl, Lib.hid (HNX.out HLT.out)⟩
    · have e0 : (((numP ds i : Nat) : Int) / 2 ^ k == 0) = false := by
        rw [← HPW.out, ← Int.natCast_ediv]
        have : 0 < numP ds i / 2 ^ k := Nat.div_pos (by omega) hP0
        exact beq_eq_false_iff_ne.2 (by omega)
      obtain ⟨j, rfl⟩ : ∃ j, i = j + 1 := by
        cases i with
        | zero => exact absurd hP0 hlt
        | succ j => exact ⟨j, rfl⟩
      have hprev : numP ds j < 2 ^ k := by
        rcases HI.out with h | h
        · omega
        · exact h
      have HB0 := Lib.hid (HB.start HD.out.1 HD.out.2.1 hprev (by omega))
      have f1 := H.out.fr 1
      have H1 := Lib.hid (H.out.setDp ((dp : Int) - (j : Int)))
      have HG1 := Lib.hid (gb_set (World.grownBy.refl wr (some b)) 1 (.int .i64 ((dp : Int) - (j : Int))))
      have hjd : (j : Int) ≤ (dp : Int) := by omega
      have hN : numP ds (j + 1) < 10 * 2 ^ k := numP_next HD.out.1 hprev
      clear hcell hprev HI HN hlt
      have HNN := Lib.hid hN
      clear hN
      generalize numP ds (j + 1) = N at *
      go_wp2_with fail
      generalize wr.setCell ⟨b, 1, none⟩ (.int .i64 ((dp : Int) - (j : Int))) = W1 at *
      have HOW : Hid (Lib.OwnBuf W1.heap.size 5 (.slice none 0 0) 0 (dgCells []) W1 W1) := Lib.hid ⟨World.ownsRowF_nil _ _ _ _, Below.refl _ _, Nat.le_refl _⟩
      obtain ⟨ti, hti, hz0, hz1, hz2⟩ := byteInfo
      have HTI := Lib.hid (And.intro hti (And.intro hz0 (And.intro hz1 hz2)))
      clear hti hz0 hz1 hz2
      go_loopg [4, 5, 6] (ds.length + k + 3) (fun gk s4 s5 s6 wx => ∃ (i n : Nat) (out : List Nat) (v : Value), s4 = .int .u64 n ∧ s5 = .int .i64 i ∧ s6 = v ∧ gk = ds.length + k + 3 + (j + 1) - i ∧ Hid (HB ds k (j + 1) i n out) ∧ Hid (Lib.OwnBuf W1.heap.size 5 v out.length (dgCells out) W1 wx) ∧ Hid (out.length ≤ ds.length + k + 1))
      case atStart => exact ⟨j + 1, N, [], _, rfl, rfl, rfl, by omega, HB0, HOW, Lib.hid (by simp)⟩
      case round =>
        obtain ⟨i, n, out, v, rfl, rfl, rfl, rfl, HB, HO, HLE⟩ := hrel
        clear HOW HB0
        have H2 := Lib.hid (H1.out.kept HO.out.2.1)
        obtain ⟨a, c, c0, c1, hcell⟩ := H2.out.open
        have hn64 : n < 10 * 2 ^ k := HB.out.lt
        have hq10 : n / 2 ^ k < 10 := Nat.div_lt_of_lt_mul (by rw [Nat.mul_comm] at hn64; exact hn64)
        have HQ : Hid ((((n / 2 ^ k : Nat)) : Int) = (n : Int) / 2 ^ k) := Lib.hid (by rw [← HPW.out, Int.natCast_ediv])
        by_cases hgo : i < ds.length ∨ 0 < n
        · have hbd := HB.out.bound hgo
          have HST := Lib.hid (HB.out.step HD.out.1)
          have hq1 : (0 : Int) ≤ (n : Int) / 2 ^ k := by rw [← HQ.out]; exact Int.natCast_nonneg _
          have hq2 : (n : Int) / 2 ^ k < 10 := by rw [← HQ.out]; exact Int.ofNat_lt.2 hq10
          have HLN : Hid (out.length + 1 ≤ 140737488355328) := Lib.hid (by have := HB.out.len; omega)
          have HLE2 : Hid ((out ++ [n / 2 ^ k]).length ≤ ds.length + k + 1) := Lib.hid (by have := HB.out.len; simp; omega)
          have hmk := mask_facts n k hn64 hk
          have hr : n % 2 ^ k < 2 ^ k := Nat.mod_lt _ hP0
          have hrb : n % 2 ^ k * 10 ≤ 5764607523034234870 := by omega
          generalize n % 2 ^ k * 10 = R at *
          clear hr hq10
          by_cases hil : i < ds.length
          · obtain ⟨g, rfl, hg⟩ := hcell i hil
            have hj : (i : Int) < (ds.length : Int) := by omega
            have e : ds.getD i 0 = ds[i] := by rw [List.getD_eq_getElem?_getD, List.getElem?_eq_getElem hil]; rfl
            have hdg := HD.out.1.getD i
            rw [e] at HST hdg
            go_wp2_with (at_builtin; refine Lib.wpList_append_byte rfl _ _ 58 rfl W1.heap.size 5 ti Tryz.underlying58 HTI.out.1 HTI.out.2.1 HTI.out.2.2.1 HTI.out.2.2.2 u6 out.length (dgCells out) rfl W1 _ ((n : Int) / 2 ^ k) HO.out rfl HLN.out ?_; intro v' w3 ho3; have HO3 := Lib.hid ho3; have H3 := Lib.hid (H1.out.kept ho3.2.1); obtain ⟨a3, c3, d0, d1, dcell⟩ := H3.out.open; obtain ⟨g3, rfl, hg3⟩ := dcell i hil; clear ho3 dcell)
            go_roundg (ds.length + k + 3 + (j + 1) - (i + 1))
            case measure => omega
            case rel => exact ⟨i + 1, R + ds[i], out ++ [n / 2 ^ k], _, by simp, by go_num, rfl, rfl, HST, Lib.hid (own_snoc HQ.out HO3.out), HLE2⟩
          · have hj : ¬ ((i : Int) < (ds.length : Int)) := by omega
            have hgt : (0 : Int) < (n : Int) := by omega
            have e : ds.getD i 0 = 0 := by rw [List.getD_eq_getElem?_getD, List.getElem?_eq_none (by omega)]; rfl
            rw [e, Nat.add_zero] at HST
            go_wp2_with (at_builtin; refine Lib.wpList_append_byte rfl _ _ 58 rfl W1.heap.size 5 ti Tryz.underlying58 HTI.out.1 HTI.out.2.1 HTI.out.2.2.1 HTI.out.2.2.2 u6 out.length (dgCells out) rfl W1 _ ((n : Int) / 2 ^ k) HO.out rfl HLN.out ?_; intro v' w3 ho3; have HO3 := Lib.hid ho3; have H3 := Lib.hid (H1.out.kept ho3.2.1); obtain ⟨a3, c3, d0, d1, dcell⟩ := H3.out.open; clear ho3 dcell)
            go_roundg (ds.length + k + 3 + (j + 1) - (i + 1))
            case measure => omega
            case rel => exact ⟨i + 1, R, out ++ [n / 2 ^ k], _, rfl, by go_num, rfl, rfl, HST, Lib.hid (own_snoc HQ.out HO3.out), HLE2⟩
        · have hj : ¬ ((i : Int) < (ds.length : Int)) := by omega
          have hn0 : n = 0 := by omega
          subst hn0
          obtain ⟨a6, c6, hu6, -, -⟩ := drow_of HO.out.1
          subst hu6
          have f0 := H2.out.fr 0
          have HDR := Lib.hid (H2.out.put (drow_of HO.out.1) (fun g hg => by have h1 := (HO.out.1.lt g hg).1; have h2 := H1.out.lt; omega))
          have HGR := Lib.hid (half_grown HG1.out HO.out.2.1 HO.out.2.2 (b := b) (v := .slice a6 out.length c6))
          have HLE3 : Hid (out.length ≤ 100000) := Lib.hid (by have := HLE.out; omega)
          clear hn64 hq10 HQ hcell
          go_wp2_with fail
          refine (trim_any b out _ _ HDR.out HLE3.out).mono ?_
          rintro e w4 ⟨cur, r, hcur, hlast, rfl, hdec, hg4⟩
          have HF := Lib.hid (half_end HB.out hP0 (by omega) (by omega) hcur hlast hdec)
          have HG4 := Lib.hid (gb_trans HGR.out hg4)
          have HL4 : Hid (cur.length ≤ ds.length + k + 1) := Lib.hid (by have h1 := congrArg List.length hcur; have h2 := HLE.out; simp at h1; omega)
          clear hcur hlast hdec hg4
          go_wp2_with fail
          go_end0
          obtain ⟨h1, h2, h3, h4, h5, h6⟩ := HF.out
          exact ⟨cur, dp - j, rfl, h1, HG4.out, h2, h3, h4, h5, HL4.out, by omega, h6⟩
end Go.Proofs.YtjpcdbopioblaaaGreatDoor

/- 'shift' of a decimal walked, for a shift down of at most 59 places; and the decimal 0. -/
namespace Go.Proofs.YtjpcdbopioblaaaGreatDoor
open Go.RowKit

set_option maxRecDepth 100000 in
set_option maxHeartbeats 1600000 in
theorem shift_half (b : Nat) (ds : List Nat) (dp k : Nat) (w : World) (h : DecAt w b ds dp) (hd : Digs ds) (hne : 0 < numL ds) (hbig : 2 ^ k ≤ numP ds (dp + 1)) (hk0 : 0 < k) (hk : k ≤ 59) (hl : ds.length ≤ 1000) (hdp : dp ≤ 1000) :
    Calls Tryz.prog 201 #[.pointer (some ⟨b, 0, none⟩), .int .i64 (-(k : Int))] w (HalfPost b ds dp k w) := by
  have H := Lib.hid (dechalf_any b ds dp k w h hd hne hbig hk hl hdp)
  clear h hd hne hbig
  go_enter Tryz.func201, Tryz.ntmps201
  go_wp2_with fail
  go_loopg [1] 0 (fun gk s1 wr => gk = 0 ∧ s1 = .int .i64 (-(k : Int)) ∧ wr = w)
  case atStart => exact ⟨rfl, rfl, rfl⟩
  case round =>
    obtain ⟨rfl, rfl, rfl⟩ := hrel
    go_wp2_with fail
    go_loopg [1] 0 (fun gk s1 wr2 => gk = 0 ∧ s1 = .int .i64 (-(k : Int)) ∧ wr2 = wr)
    case atStart => exact ⟨rfl, rfl, rfl⟩
    case round =>
      obtain ⟨rfl, rfl, rfl⟩ := hrel
      go_wp2_with fail
      have e : - -(k : Int) = (k : Int) := by omega
      refine H.out.mono ?_
      rintro e w' hp
      have HP := Lib.hid hp
      obtain ⟨out, dp', rfl, _⟩ := hp
      go_wp2_with fail
      go_end0
      exact HP.out

set_option maxRecDepth 100000 in
set_option maxHeartbeats 1600000 in
theorem half_nil (b k : Nat) (w : World) (h : DecAt w b [] 0) (hk : k ≤ 59) :
    Calls Tryz.prog 239 #[.pointer (some ⟨b, 0, none⟩), .int .i64 k] w (fun e w' => e = .returned (.tuple #[]) ∧ DecAt w' b [] 0 ∧ w.grownBy w' (some b)) := by
  have H := Lib.hid h
  obtain ⟨a, c, h0, h1, hcell⟩ := h.open
  have f0 := h.fr 0
  have f1 := h.fr 1
  clear h hcell
  go_enter Tryz.func239, Tryz.ntmps239
  go_wp2_with fail
  go_loopg [4, 5] 0 (fun gk s4 s5 wr => gk = 0 ∧ s4 = .int .u64 0 ∧ s5 = .int .i64 0 ∧ wr = w)
  case atStart => exact ⟨rfl, rfl, rfl, rfl⟩
  case round =>
    obtain ⟨rfl, rfl, rfl, rfl⟩ := hrel
    have e0 : ((0 : Int) / 2 ^ k == 0) = true := by simp
    go_wp2_with fail
    refine bodyPost_ret (v := .tuple #[]) (results_none rfl _ _ _) rfl ?_
    refine ⟨rfl, ?_, gb_set (gb_set (World.grownBy.refl wr (some b)) 0 _) 1 _⟩
    exact (H.out.put (ds' := []) (v := .slice none 0 0) ⟨none, 0, rfl, Nat.le_refl _, fun j hj => absurd hj (by simp)⟩ (fun g hg => by simp [Value.ownBlock] at hg)).setDp 0

set_option maxRecDepth 100000 in
set_option maxHeartbeats 1600000 in
theorem shift_nil (b k : Nat) (w : World) (h : DecAt w b [] 0) (hk : k ≤ 2000) :
    Calls Tryz.prog 201 #[.pointer (some ⟨b, 0, none⟩), .int .i64 (-(k : Int))] w (fun e w' => e = .returned (.tuple #[]) ∧ DecAt w' b [] 0 ∧ w.grownBy w' (some b)) := by
  have H := Lib.hid h
  clear h
  go_enter Tryz.func201, Tryz.ntmps201
  go_wp2_with fail
  go_loopg [1] 0 (fun gk s1 wr => gk = 0 ∧ s1 = .int .i64 (-(k : Int)) ∧ wr = w)
  case atStart => exact ⟨rfl, rfl, rfl⟩
  case round =>
    obtain ⟨rfl, rfl, rfl⟩ := hrel
    go_wp2_with fail
    go_loopg [1] k (fun gk s1 wx => ∃ q : Nat, s1 = .int .i64 (-(q : Int)) ∧ gk = q ∧ q ≤ 2000 ∧ Hid (DecAt wx b [] 0) ∧ Hid (wr.grownBy wx (some b)))
    case atStart => exact ⟨k, rfl, rfl, hk, H, Lib.hid (World.grownBy.refl _ _)⟩
    case round =>
      obtain ⟨q, rfl, rfl, hq, HX, HG⟩ := hrel
      by_cases hbig : 59 < gk
      · go_wp2_with fail
        refine (half_nil b 59 _ HX.out (by decide)).mono ?_
        rintro e w' ⟨rfl, hx, hg⟩
        have HX' := Lib.hid hx
        have HG' := Lib.hid (gb_trans HG.out hg)
        clear hx hg
        go_wp2_with fail
        go_roundg (gk - 59)
        case measure => omega
        case rel => exact ⟨gk - 59, by go_num, rfl, by omega, HX', HG'⟩
      · by_cases h0 : gk = 0
        · subst h0
          go_wp2_with fail
          go_end0
          exact ⟨rfl, HX.out, HG.out⟩
        · go_wp2_with fail
          refine (half_nil b gk _ HX.out (by omega)).mono ?_
          rintro e w' ⟨rfl, hx, hg⟩
          have HX' := Lib.hid hx
          have HG' := Lib.hid (gb_trans HG.out hg)
          clear hx hg
          go_wp2_with fail
          go_end0
          exact ⟨rfl, HX'.out, HG'.out⟩
end Go.Proofs.YtjpcdbopioblaaaGreatDoor
