/- The program's own values whose blocks lie in a given set. -/
import Derived.Test.YtjpcdbopioblaaaDoorFromGoAll
namespace Go.Proofs.YtjpcdbopioblaaaDoor
open Go.RowKit

mutual
/-- The tree lies in the world as a value of the program, in blocks of the set S alone. -/
def RV.GoS (w : World) (S : Nat → Prop) (x : Value) : RV → Prop
  | .mk k h t l ks vs =>
    (k = 0 ∧ x = .nilIface) ∨ (k = 1 ∧ x = .iface 4 (.bool false)) ∨ (k = 2 ∧ x = .iface 4 (.bool true)) ∨ (k = 3 ∧ x = numG h) ∨ (k = 4 ∧ x = .iface 9 (.string t)) ∨
    (k = 5 ∧ ∃ a cap, x = .iface 85 (.slice a l.length cap) ∧ RV.GoSL w S a 0 l) ∨
    (k = 6 ∧ ∃ r n xs, x = .iface 94 (.map (some r)) ∧ S r ∧ n ≤ 1000000 ∧ w.ownsMap Tryd.prog 9 heldR r n (mapD ks xs) ∧ xs.length = ks.length ∧ RV.GoSV w S xs vs)
def RV.GoSL (w : World) (S : Nat → Prop) (a : Option Addr) (i : Nat) : List RV → Prop
  | [] => True
  | y :: ys => (∃ b o x, a = some ⟨b, o, none⟩ ∧ S b ∧ w.cell? ⟨b, o + i, none⟩ = some x ∧ RV.GoS w S x y) ∧ RV.GoSL w S a (i + 1) ys
def RV.GoSV (w : World) (S : Nat → Prop) (xs : List Value) : List RV → Prop
  | [] => xs = []
  | y :: ys => ∃ x r, xs = x :: r ∧ RV.GoS w S x y ∧ RV.GoSV w S r ys
end

/-- Blocks of the set stand as they stood, and the set may grow. -/
def SameOn (S : Nat → Prop) (w w' : World) : Prop := ∀ k, S k → k < w.heap.size → w'.heap[k]? = w.heap[k]?
theorem SameOn.cell {S : Nat → Prop} {w w' : World} (h : SameOn S w w') {b o : Nat} {v : Value} (hb : S b) (hc : w.cell? ⟨b, o, none⟩ = some v) : w'.cell? ⟨b, o, none⟩ = some v :=
  (World.cell?_of_block (h b hb (cell_lt hc))).trans hc
theorem SameOn.map {S : Nat → Prop} {w w' : World} (h : SameOn S w w') {r n : Nat} {D : DataW Value} (hb : S r) (hm : w.ownsMap Tryd.prog 9 heldR r n D) : w'.ownsMap Tryd.prog 9 heldR r n D := by
  have hlt := hm.lt
  obtain ⟨es, clock, h1, h2⟩ := hm
  exact ⟨es, clock, (h r hb hlt).trans h1, h2⟩
theorem SameOn.of_below {S : Nat → Prop} {w w' : World} (h : Below w.heap.size w w') : SameOn S w w' := fun k _ hk => h.block k hk
theorem SameOn.of_gb {S : Nat → Prop} {w w' : World} {g : Nat} (h : w.grownBy w' (some g)) (hg : ¬ S g) : SameOn S w w' := fun k hb hk => h.block k hk (fun e => by cases e; exact hg hb)
mutual
theorem RV.GoS.keep {w w' : World} {S S' : Nat → Prop} (hs : SameOn S w w') (hS : ∀ k, S k → k < w.heap.size → S' k) : ∀ {y : RV} {x : Value}, y.GoS w S x → y.GoS w' S' x
  | .mk k h t l ks vs, x, hr => by
    unfold RV.GoS at hr ⊢
    rcases hr with e | e | e | e | e | ⟨e, a, cap, hx, hl⟩ | ⟨e, r, n, xs, hx, hb, hn, hm, hxs, hv⟩
    · exact .inl e
    · exact .inr (.inl e)
    · exact .inr (.inr (.inl e))
    · exact .inr (.inr (.inr (.inl e)))
    · exact .inr (.inr (.inr (.inr (.inl e))))
    · exact .inr (.inr (.inr (.inr (.inr (.inl ⟨e, a, cap, hx, RV.GoSL.keep hs hS hl⟩)))))
    · exact .inr (.inr (.inr (.inr (.inr (.inr ⟨e, r, n, xs, hx, hS r hb hm.lt, hn, hs.map hb hm, hxs, RV.GoSV.keep hs hS hv⟩)))))
theorem RV.GoSL.keep {w w' : World} {S S' : Nat → Prop} (hs : SameOn S w w') (hS : ∀ k, S k → k < w.heap.size → S' k) : ∀ {l : List RV} {a : Option Addr} {i : Nat}, RV.GoSL w S a i l → RV.GoSL w' S' a i l
  | [], _, _, _ => by unfold RV.GoSL; trivial
  | y :: ys, a, i, hr => by
    unfold RV.GoSL at hr ⊢
    obtain ⟨⟨b, o, x, e, hb, hc, hy⟩, h2⟩ := hr
    exact ⟨⟨b, o, x, e, hS b hb (cell_lt hc), hs.cell hb hc, RV.GoS.keep hs hS hy⟩, RV.GoSL.keep hs hS h2⟩
theorem RV.GoSV.keep {w w' : World} {S S' : Nat → Prop} (hs : SameOn S w w') (hS : ∀ k, S k → k < w.heap.size → S' k) : ∀ {l : List RV} {xs : List Value}, RV.GoSV w S xs l → RV.GoSV w' S' xs l
  | [], _, hr => by unfold RV.GoSV at hr ⊢; exact hr
  | y :: ys, xs, hr => by
    unfold RV.GoSV at hr ⊢
    obtain ⟨x, r, e, hy, h2⟩ := hr
    exact ⟨x, r, e, RV.GoS.keep hs hS hy, RV.GoSV.keep hs hS h2⟩
end
mutual
theorem RV.Go.toS {w : World} {base : Nat} : ∀ {y : RV} {x : Value}, y.Go w base x → y.GoS w (fun k => base ≤ k) x
  | .mk k h t l ks vs, x, hr => by
    unfold RV.Go at hr
    unfold RV.GoS
    rcases hr with e | e | e | e | e | ⟨e, a, cap, hx, hl⟩ | ⟨e, r, n, xs, hx, hb, hn, hm, hxs, hv⟩
    · exact .inl e
    · exact .inr (.inl e)
    · exact .inr (.inr (.inl e))
    · exact .inr (.inr (.inr (.inl e)))
    · exact .inr (.inr (.inr (.inr (.inl e))))
    · exact .inr (.inr (.inr (.inr (.inr (.inl ⟨e, a, cap, hx, RV.GoL.toS hl⟩)))))
    · exact .inr (.inr (.inr (.inr (.inr (.inr ⟨e, r, n, xs, hx, hb, hn, hm, hxs, RV.GoV.toS hv⟩)))))
theorem RV.GoL.toS {w : World} {base : Nat} : ∀ {l : List RV} {a : Option Addr} {i : Nat}, RV.GoL w base a i l → RV.GoSL w (fun k => base ≤ k) a i l
  | [], _, _, _ => by unfold RV.GoSL; trivial
  | y :: ys, a, i, hr => by
    unfold RV.GoL at hr
    unfold RV.GoSL
    obtain ⟨⟨b, o, x, e, hb, hc, hy⟩, h2⟩ := hr
    exact ⟨⟨b, o, x, e, hb, hc, RV.Go.toS hy⟩, RV.GoL.toS h2⟩
theorem RV.GoV.toS {w : World} {base : Nat} : ∀ {l : List RV} {xs : List Value}, RV.GoV w base xs l → RV.GoSV w (fun k => base ≤ k) xs l
  | [], _, hr => by unfold RV.GoV at hr; unfold RV.GoSV; exact hr
  | y :: ys, xs, hr => by
    unfold RV.GoV at hr
    unfold RV.GoSV
    obtain ⟨x, r, e, hy, h2⟩ := hr
    exact ⟨x, r, e, RV.Go.toS hy, RV.GoV.toS h2⟩
end
mutual
theorem RV.GoS.toGo {w : World} : ∀ {y : RV} {x : Value} {S : Nat → Prop}, y.GoS w S x → y.Go w 0 x
  | .mk k h t l ks vs, x, S, hr => by
    unfold RV.GoS at hr
    unfold RV.Go
    rcases hr with e | e | e | e | e | ⟨e, a, cap, hx, hl⟩ | ⟨e, r, n, xs, hx, hb, hn, hm, hxs, hv⟩
    · exact .inl e
    · exact .inr (.inl e)
    · exact .inr (.inr (.inl e))
    · exact .inr (.inr (.inr (.inl e)))
    · exact .inr (.inr (.inr (.inr (.inl e))))
    · exact .inr (.inr (.inr (.inr (.inr (.inl ⟨e, a, cap, hx, RV.GoSL.toGo hl⟩)))))
    · exact .inr (.inr (.inr (.inr (.inr (.inr ⟨e, r, n, xs, hx, Nat.zero_le _, hn, hm, hxs, RV.GoSV.toGo hv⟩)))))
theorem RV.GoSL.toGo {w : World} : ∀ {l : List RV} {a : Option Addr} {i : Nat} {S : Nat → Prop}, RV.GoSL w S a i l → RV.GoL w 0 a i l
  | [], _, _, _, _ => by unfold RV.GoL; trivial
  | y :: ys, a, i, S, hr => by
    unfold RV.GoSL at hr
    unfold RV.GoL
    obtain ⟨⟨b, o, x, e, hb, hc, hy⟩, h2⟩ := hr
    exact ⟨⟨b, o, x, e, Nat.zero_le _, hc, RV.GoS.toGo hy⟩, RV.GoSL.toGo h2⟩
theorem RV.GoSV.toGo {w : World} : ∀ {l : List RV} {xs : List Value} {S : Nat → Prop}, RV.GoSV w S xs l → RV.GoV w 0 xs l
  | [], _, _, hr => by unfold RV.GoSV at hr; unfold RV.GoV; exact hr
  | y :: ys, xs, S, hr => by
    unfold RV.GoSV at hr
    unfold RV.GoV
    obtain ⟨x, r, e, hy, h2⟩ := hr
    exact ⟨x, r, e, RV.GoS.toGo hy, RV.GoSV.toGo h2⟩
end
theorem RV.GoSV.get {w : World} {S : Nat → Prop} : ∀ {l : List RV} {xs : List Value}, RV.GoSV w S xs l → ∀ (j : Nat) (h : j < l.length) (h' : j < xs.length), l[j].GoS w S xs[j]
  | _ :: _, _, hr, 0, _, _ => by
    unfold RV.GoSV at hr
    obtain ⟨x, r, rfl, hg, _⟩ := hr
    simpa using hg
  | _ :: ys, _, hr, j + 1, h, h' => by
    unfold RV.GoSV at hr
    obtain ⟨x, r, rfl, _, h2⟩ := hr
    simpa using RV.GoSV.get h2 j (by simpa using h) (by simpa using h')
theorem RV.GoSV.of {w : World} {S : Nat → Prop} : ∀ (l : List RV) (xs : List Value), xs.length = l.length → (∀ (j : Nat) (h : j < l.length) (h' : j < xs.length), l[j].GoS w S xs[j]) → RV.GoSV w S xs l
  | [], [], _, _ => by unfold RV.GoSV; rfl
  | y :: ys, x :: r, hl, h => by
    unfold RV.GoSV
    exact ⟨x, r, rfl, h 0 (by simp) (by simp), RV.GoSV.of ys r (by simpa using hl) fun j hj hj' => h (j + 1) (by simpa using hj) (by simpa using hj')⟩
theorem RV.GoS.shape {w : World} {S : Nat → Prop} {x : Value} {y : RV} (hr : y.GoS w S x) : x = .nilIface ∨ ∃ t z, x = .iface t z := hr.toGo.shape
end Go.Proofs.YtjpcdbopioblaaaDoor
