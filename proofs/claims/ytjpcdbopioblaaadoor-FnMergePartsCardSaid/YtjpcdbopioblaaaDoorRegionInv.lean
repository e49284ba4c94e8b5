/- A region that draws its order, walked by what holds of each state of it: plain laws of orders. -/
import Derived.Test.YtjpcdbopioblaaaDoorRows
import Derived.WalkKit
import Derived.Deep.RegionHeld3
namespace Go.Proofs.YtjpcdbopioblaaaDoor

section
variable {P : Program} {ops : Array Oper} {Q : Exit → Act → World → Prop} {md : Region.Mode} {S : World → Prop}

/-- Each state leads to a next one, whichever operation comes up. -/
theorem wpAnyH_inv {D : Type} (L : D → Array Bool) (m : D → Nat) (I : D → Act → World → Prop) (f0 : Nat)
    (hfin : ∀ d a w, m d = 0 → I d a w → wpAnyH P md ops Q S f0 (L d) a w)
    (hstep : ∀ d a w, 0 < m d → I d a w → ∃ rs, Region.ready md ops (L d) = rs ∧ rs ≠ [] ∧ ∀ i ∈ rs, ∃ d', (L d).setIfInBounds i true = L d' ∧ m d = m d' + 1 ∧ wpOp P ops Q i (fun a' w' => S w' ∧ I d' a' w') a w) :
    ∀ n d a w, m d = n → I d a w → wpAnyH P md ops Q S (f0 + n) (L d) a w
  | 0, d, a, w, hm, hI => hfin d a w hm hI
  | n + 1, d, a, w, hm, hI => by
    obtain ⟨rs, hr, hne, h⟩ := hstep d a w (by omega) hI
    refine wpAnyH_all hr hne fun i hi => ?_
    obtain ⟨d', h1, h2, h3⟩ := h i hi
    rw [h1]
    exact wpOp_mono (fun a' w' h4 => ⟨h4.1, wpAnyH_inv L m I f0 hfin hstep n d' a' w' (by omega) h4.2⟩) h3
theorem op_alloc {i : Nat} {o : Oper} {K : Act → World → Prop} {a : Act} {w : World} {t : TypeId} {cells : Array Value} (ho : ops[i]? = some o) (hop : o.op = Op.alloc t) (hg : o.guard = none) (hz : (Instr.alloc t true (.tuple #[])).run P w = .ok (.pointer (some ⟨w.heap.size, 0, none⟩)) (w.alloc (.cells cells t)))
    (h : K (a.put o.dst (.pointer (some ⟨w.heap.size, 0, none⟩))) (w.alloc (.cells cells t))) : wpOp P ops Q i K a w := by
  refine wpOp_step ho fun K' hK => ?_
  rw [if_pos (by simp [Region.wanted, hg])]
  unfold Oper.wp
  simp [execOp, hop, hz, Result.andThen]
  exact hK _ _ h
theorem op_call2 {i : Nat} {o : Oper} {K : Act → World → Prop} {a : Act} {w : World} {f : Nat} {x y : Operand} {tys : Array TypeId} {vx vy : Value} (ho : ops[i]? = some o) (hop : o.op = Op.call { callee := .value (.func f), args := #[x, y], argTypes := tys }) (hg : o.guard = none) (hx : a.eval x = vx) (hy : a.eval y = vy)
    (hent : ∀ args w, (callFunc f args).run P w = .ok (.enter f args) w) (hc : Calls P f #[vx, vy] w fun e w' => ∃ v, e = .returned v ∧ K (a.put o.dst v) w') : wpOp P ops Q i K a w := by
  refine wpOp_step ho fun K' hK => ?_
  rw [if_pos (by simp [Region.wanted, hg])]
  unfold Oper.wp
  simp only [execOp, hop, resolve, invoke, hx, hy, List.map_toArray, List.map_cons, List.map_nil, Sem.run_bind, Sem.run_pure, Result.andThen_ok]
  have e : (Deferred.ofValue (a.eval (Operand.func f)) #[vx, vy]).run P w = .ok { target := .fn (.func f) #[], args := #[vx, vy] } w := rfl
  simp [e, hent]
  show Calls P f #[vx, vy] w _
  refine hc.mono fun e w' h => ?_
  obtain ⟨v, rfl, hk⟩ := h
  exact hK _ _ hk
end
end Go.Proofs.YtjpcdbopioblaaaDoor
