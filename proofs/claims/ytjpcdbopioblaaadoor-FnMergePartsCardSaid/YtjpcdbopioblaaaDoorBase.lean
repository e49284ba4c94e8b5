/- The values of the thin package as plain trees, and what it means that they lie in memory: no walk in this text. -/
import Derived.Test.YtjpcdbopioblaaaDoorRows
import Derived.WalkKit
import Derived.WalkSpells
import Derived.WalkLawsBesides
import Derived.Lib.ValidU
import Derived.Shelf.Unicode.DecodeSlow
namespace Go.Proofs.YtjpcdbopioblaaaDoor
open Go.RowKit

/-- impl.Value as a tree. -/
inductive RV where
  | mk (kind half : Int) (text : ByteArray) (list : List RV) (keys : List ByteArray) (vals : List RV)

/-- One byte below the greatest size that a row's arguments may take. -/
def reachN : Nat := 140737488351232

def I64 (x : Int) : Prop := -9223372036854775808 ≤ x ∧ x ≤ 9223372036854775807

/-- The strings of a slice lie in the world from an address on. -/
def KeysAt (w : World) (a : Option Addr) (i : Nat) : List ByteArray → Prop
  | [] => True
  | x :: xs => (∃ b o, a = some ⟨b, o, none⟩ ∧ x.size ≤ reachN ∧ w.cell? ⟨b, o + i, none⟩ = some (.string x)) ∧ KeysAt w a (i + 1) xs

mutual
/-- The tree lies in the world under this value. -/
def RV.Rep (w : World) (v : Value) : RV → Prop
  | .mk k h t l ks vs => ∃ al cl ak ck av cv, v = .agg #[.int .i64 k, .int .i64 h, .string t, .slice al l.length cl, .slice ak ks.length ck, .slice av vs.length cv] ∧
      I64 k ∧ I64 h ∧ t.size ≤ reachN ∧ l.length ≤ reachN ∧ ks.length ≤ reachN ∧ vs.length ≤ reachN ∧ RV.RepL w al 0 l ∧ KeysAt w ak 0 ks ∧ RV.RepL w av 0 vs
/-- The trees of a list lie in the world, six cells each, from place i on. -/
def RV.RepL (w : World) (a : Option Addr) (i : Nat) : List RV → Prop
  | [] => True
  | x :: xs => (∃ b o c0 c1 c2 c3 c4 c5, a = some ⟨b, o, none⟩ ∧ w.cell? ⟨b, o + i * 6, none⟩ = some c0 ∧ w.cell? ⟨b, o + i * 6 + 1, none⟩ = some c1 ∧ w.cell? ⟨b, o + i * 6 + 2, none⟩ = some c2 ∧
      w.cell? ⟨b, o + i * 6 + 3, none⟩ = some c3 ∧ w.cell? ⟨b, o + i * 6 + 4, none⟩ = some c4 ∧ w.cell? ⟨b, o + i * 6 + 5, none⟩ = some c5 ∧ RV.Rep w (.agg #[c0, c1, c2, c3, c4, c5]) x) ∧ RV.RepL w a (i + 1) xs
end

theorem gb_trans {a b c : World} {row : Option Nat} (h : a.grownBy b row) (k : b.grownBy c row) : a.grownBy c row :=
  ⟨k.os.trans h.os, k.tape.trans h.tape, k.output.trans h.output, Nat.le_trans h.size k.size, fun i hi hn => (k.block i (Nat.lt_of_lt_of_le hi h.size) hn).trans (h.block i hi hn)⟩
theorem gb_set {a b : World} {g : Nat} (h : a.grownBy b (some g)) (i : Nat) (v : Value) : a.grownBy (b.setCell ⟨g, i, none⟩ v) (some g) :=
  ⟨h.os, h.tape, h.output, by simpa [World.setCell] using h.size, fun k hk hn => (Below.heap_setCell b ⟨g, i, none⟩ v k (by rintro rfl; exact hn rfl)).trans (h.block k hk hn)⟩
theorem gb_alloc {a b : World} {row : Option Nat} (h : a.grownBy b row) (o : Obj) : a.grownBy (b.alloc o) row :=
  ⟨h.os, h.tape, h.output, Nat.le_trans h.size (by simp), fun k hk hn => (Below.heap_alloc b o k (Nat.lt_of_lt_of_le hk h.size)).trans (h.block k hk hn)⟩
theorem gb_below {a b c : World} {row : Option Nat} (h : a.grownBy b row) (k : Below b.heap.size b c) : a.grownBy c row :=
  ⟨k.os.trans h.os, k.tape.trans h.tape, k.output.trans h.output, Nat.le_trans h.size k.size, fun i hi hn => (k.block i (Nat.lt_of_lt_of_le hi h.size)).trans (h.block i hi hn)⟩
/-- What is written lies in a block that is new to the first world. -/
theorem below_gb {B : Nat} {a b c : World} {g : Nat} (h : Below B a b) (k : b.grownBy c (some g)) (hB : B ≤ b.heap.size) (hg : B ≤ g) : Below B a c :=
  h.grown k hB (fun _ e => by cases e; exact hg)

theorem cell_lt {w : World} {b o : Nat} {v : Value} (h : w.cell? ⟨b, o, none⟩ = some v) : b < w.heap.size := by
  rcases Nat.lt_or_ge b w.heap.size with h' | h'
  · exact h'
  · simp [World.cell?, Array.getElem?_eq_none h'] at h

theorem KeysAt.get {w : World} {a : Option Addr} : ∀ {ks : List ByteArray} {i : Nat}, KeysAt w a i ks → ∀ (j : Nat) (h : j < ks.length), ∃ b o, a = some ⟨b, o, none⟩ ∧ ks[j].size ≤ reachN ∧ w.cell? ⟨b, o + (i + j), none⟩ = some (.string ks[j])
  | _ :: _, i, h, 0, _ => by simpa using h.1
  | _ :: xs, i, h, j + 1, hj => by
    have := KeysAt.get h.2 j (by simpa using hj)
    simpa [Nat.add_assoc, Nat.add_comm 1 j] using this

theorem RV.RepL.get {w : World} {a : Option Addr} : ∀ {l : List RV} {i : Nat}, RV.RepL w a i l → ∀ (j : Nat) (h : j < l.length), ∃ b o c0 c1 c2 c3 c4 c5, a = some ⟨b, o, none⟩ ∧ w.cell? ⟨b, o + (i + j) * 6, none⟩ = some c0 ∧
      w.cell? ⟨b, o + (i + j) * 6 + 1, none⟩ = some c1 ∧ w.cell? ⟨b, o + (i + j) * 6 + 2, none⟩ = some c2 ∧ w.cell? ⟨b, o + (i + j) * 6 + 3, none⟩ = some c3 ∧ w.cell? ⟨b, o + (i + j) * 6 + 4, none⟩ = some c4 ∧
      w.cell? ⟨b, o + (i + j) * 6 + 5, none⟩ = some c5 ∧ l[j].Rep w (.agg #[c0, c1, c2, c3, c4, c5])
  | _ :: _, i, h, 0, _ => by
    unfold RV.RepL at h
    simpa using h.1
  | _ :: xs, i, h, j + 1, hj => by
    unfold RV.RepL at h
    have := RV.RepL.get h.2 j (by simpa using hj)
    simpa [Nat.add_assoc, Nat.add_comm 1 j] using this

theorem KeysAt.below {w w' : World} {a : Option Addr} (hb : Below w.heap.size w w') : ∀ {ks : List ByteArray} {i : Nat}, KeysAt w a i ks → KeysAt w' a i ks
  | [], _, _ => trivial
  | _ :: _, _, ⟨⟨b, o, e, hs, hc⟩, h2⟩ => ⟨⟨b, o, e, hs, (hb.cell (p := ⟨b, _, none⟩) (cell_lt hc)).trans hc⟩, KeysAt.below hb h2⟩

mutual
theorem RV.Rep.below {w w' : World} (hb : Below w.heap.size w w') : ∀ {x : RV} {v : Value}, x.Rep w v → x.Rep w' v
  | .mk k h t l ks vs, v, hr => by
    unfold RV.Rep at hr ⊢
    obtain ⟨al, cl, ak, ck, av, cv, e, h1, h2, h3, h4, h5, h6, h7, h8, h9⟩ := hr
    exact ⟨al, cl, ak, ck, av, cv, e, h1, h2, h3, h4, h5, h6, RV.RepL.below hb h7, h8.below hb, RV.RepL.below hb h9⟩
theorem RV.RepL.below {w w' : World} (hb : Below w.heap.size w w') : ∀ {l : List RV} {a : Option Addr} {i : Nat}, RV.RepL w a i l → RV.RepL w' a i l
  | [], _, _, _ => by unfold RV.RepL; trivial
  | x :: xs, a, i, hr => by
    unfold RV.RepL at hr ⊢
    obtain ⟨⟨b, o, c0, c1, c2, c3, c4, c5, e, h0, h1, h2, h3, h4, h5, hx⟩, hr2⟩ := hr
    have hlt := cell_lt h0
    exact ⟨⟨b, o, c0, c1, c2, c3, c4, c5, e, (hb.cell (p := ⟨b, _, none⟩) hlt).trans h0, (hb.cell (p := ⟨b, _, none⟩) hlt).trans h1, (hb.cell (p := ⟨b, _, none⟩) hlt).trans h2, (hb.cell (p := ⟨b, _, none⟩) hlt).trans h3,
      (hb.cell (p := ⟨b, _, none⟩) hlt).trans h4, (hb.cell (p := ⟨b, _, none⟩) hlt).trans h5, RV.Rep.below hb hx⟩, RV.RepL.below hb hr2⟩
end

/-- The keys rise. -/
def KeysUp (ks : List ByteArray) : Prop := ∀ i (h : i + 1 < ks.length), Op.bytesLess ks[i].toList ks[i + 1].toList = true

mutual
/-- What the reference's Fit asks of a value. -/
def RV.Good : RV → Prop
  | .mk k h t l ks vs => 0 ≤ k ∧ k ≤ 6 ∧ (k = 3 ∨ h = 0) ∧ (k = 4 ∨ t = ByteArray.empty) ∧ (k = 5 ∨ l = []) ∧ (k = 6 ∨ ks = []) ∧ ks.length = vs.length ∧
      -18014398509481984 ≤ h ∧ h ≤ 18014398509481984 ∧ (h % 2 = 0 ∨ (-9007199254740992 < h ∧ h < 9007199254740992)) ∧ Lib.validD t.data.toList = true ∧ RV.GoodL l ∧ (∀ x ∈ ks, Lib.validD x.data.toList = true) ∧ KeysUp ks ∧ RV.GoodL vs
def RV.GoodL : List RV → Prop
  | [] => True
  | x :: xs => x.Good ∧ RV.GoodL xs
end
mutual
/-- How many values a value holds. -/
def RV.nodes : RV → Nat
  | .mk _ _ _ l _ vs => 1 + RV.nodesL l + RV.nodesL vs
def RV.nodesL : List RV → Nat
  | [] => 0
  | x :: xs => x.nodes + RV.nodesL xs
end
def keysSize : List ByteArray → Nat
  | [] => 0
  | x :: xs => x.size + keysSize xs
mutual
/-- How many bytes its texts have. -/
def RV.bytes : RV → Nat
  | .mk _ _ t l ks vs => t.size + RV.bytesL l + keysSize ks + RV.bytesL vs
def RV.bytesL : List RV → Nat
  | [] => 0
  | x :: xs => x.bytes + RV.bytesL xs
end

theorem RV.GoodL.take_succ {l : List RV} {j : Nat} (h : j < l.length) : RV.GoodL (l.take (j + 1)) ↔ RV.GoodL (l.take j) ∧ l[j].Good := by
  induction l generalizing j with
  | nil => simp at h
  | cons x xs ih =>
    cases j with
    | zero => simp [RV.GoodL]
    | succ j => simp only [List.take_succ_cons, RV.GoodL, List.getElem_cons_succ]; rw [ih (by simpa using h)]; constructor <;> (rintro ⟨a, b⟩; first | exact ⟨⟨a, b.1⟩, b.2⟩ | exact ⟨a.1, a.2, b⟩)
theorem RV.nodesL_take_succ {l : List RV} {j : Nat} (h : j < l.length) : RV.nodesL (l.take (j + 1)) = RV.nodesL (l.take j) + l[j].nodes := by
  induction l generalizing j with
  | nil => simp at h
  | cons x xs ih =>
    cases j with
    | zero => simp [RV.nodesL]
    | succ j => simp only [List.take_succ_cons, RV.nodesL, List.getElem_cons_succ]; rw [ih (by simpa using h)]; omega
theorem RV.bytesL_take_succ {l : List RV} {j : Nat} (h : j < l.length) : RV.bytesL (l.take (j + 1)) = RV.bytesL (l.take j) + l[j].bytes := by
  induction l generalizing j with
  | nil => simp at h
  | cons x xs ih =>
    cases j with
    | zero => simp [RV.bytesL]
    | succ j => simp only [List.take_succ_cons, RV.bytesL, List.getElem_cons_succ]; rw [ih (by simpa using h)]; omega
theorem keysSize_take_succ {l : List ByteArray} {j : Nat} (h : j < l.length) : keysSize (l.take (j + 1)) = keysSize (l.take j) + l[j].size := by
  induction l generalizing j with
  | nil => simp at h
  | cons x xs ih =>
    cases j with
    | zero => simp [keysSize]
    | succ j => simp only [List.take_succ_cons, keysSize, List.getElem_cons_succ]; rw [ih (by simpa using h)]; omega
theorem RV.nodes_le {l : List RV} {j : Nat} (h : j < l.length) : l[j].nodes ≤ RV.nodesL l := by
  induction l generalizing j with
  | nil => simp at h
  | cons x xs ih =>
    cases j with
    | zero => simp [RV.nodesL]
    | succ j => simp only [List.getElem_cons_succ, RV.nodesL]; have := ih (j := j) (by simpa using h); omega
theorem RV.nodes_pos : ∀ (x : RV), 0 < x.nodes
  | .mk _ _ _ _ _ _ => by unfold RV.nodes; omega

end Go.Proofs.YtjpcdbopioblaaaDoor
