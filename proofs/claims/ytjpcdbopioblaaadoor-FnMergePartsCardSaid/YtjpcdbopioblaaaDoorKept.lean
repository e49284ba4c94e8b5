/- A region that draws its order, in which a load may be taken first although a store of the same region, later than the load, writes its cell: plain laws of orders, after the model house's 'wpAnyH'. -/
import Derived.Test.YtjpcdbopioblaaaDoorRows
import Derived.WalkKit
import Derived.Deep.RegionHeld3
namespace Go.Proofs.YtjpcdbopioblaaaDoor

section
variable {P : Program} {ops : Array Oper} {Q : Exit → Act → World → Prop} {md : Region.Mode} {S : World → Prop} {k : Nat}

/-- Whatever order is picked from here on, and S holds behind every operation that is carried out before number k. -/
def wpAnyK (P : Program) (md : Region.Mode) (ops : Array Oper) (Q : Exit → Act → World → Prop) (S : World → Prop) (k : Nat) : Nat → Array Bool → Act → World → Prop
  | 0, listed, a, w => Region.ready md ops listed = [] ∧ Q .normal a w
  | fuel + 1, listed, a, w =>
    (Region.ready md ops listed = [] → Q .normal a w) ∧
    ∀ i ∈ Region.ready md ops listed, wpOp P ops Q i (fun a' w' => (i ≠ k → listed.getD k true = false → S w') ∧ wpAnyK P md ops Q S k fuel (listed.setIfInBounds i true) a' w') a w

theorem wpAny_of_kept : ∀ (fuel : Nat) (listed : Array Bool) (a : Act) (w : World), wpAnyK P md ops Q S k fuel listed a w → wpAny P md ops Q fuel listed a w
  | 0, _, _, _, h => h
  | fuel + 1, _, _, _, h => ⟨h.1, fun i hi => wpOp_mono (fun a' w' h' => wpAny_of_kept fuel _ a' w' h'.2) (h.2 i hi)⟩

/-- Once number k has come up nothing is asked any more. -/
theorem wpAnyK_of_any : ∀ (fuel : Nat) (listed : Array Bool) (a : Act) (w : World), listed.getD k true = true → wpAny P md ops Q fuel listed a w → wpAnyK P md ops Q S k fuel listed a w
  | 0, _, _, _, _, h => h
  | fuel + 1, listed, _, _, hk, h => ⟨h.1, fun i hi => wpOp_mono (fun a' w' h' => ⟨fun _ e => absurd (hk.symm.trans e) (by decide), wpAnyK_of_any fuel _ a' w' (by
      by_cases hik : i = k
      · subst hik
        rcases Nat.lt_or_ge i listed.size with h1 | h1
        · simp [Array.getD, h1]
        · simp [Array.getD, h1]
      · rw [getD_set_ne true hik]; exact hk) h'⟩) (h.2 i hi)⟩

/-- The operations of the cone C wait for number i, each directly or through another one of C. -/
def coneB (md : Region.Mode) (ops : Array Oper) (C : List Nat) (i : Nat) : Bool :=
  C.all fun c => ((ops[c]?).map fun o => o.after.any fun e => Region.binds md e && (e.on == i || C.contains e.on)).getD false

theorem cone_waits {C : List Nat} {i j : Nat} {listed : Array Bool} (hC : coneB md ops C i = true) (hl : ∀ c ∈ C, listed.getD c true = false) (hi : listed.getD i true = false) (hj : j ∈ Region.ready md ops listed) : j ∉ C := by
  intro hm
  obtain ⟨_, oj, hoj, hall⟩ := mem_ready.1 hj
  have h1 := List.all_eq_true.1 hC j hm
  rw [hoj] at h1
  simp only [Option.map_some, Option.getD_some] at h1
  obtain ⟨e, he, h2⟩ := Array.any_eq_true'.1 h1
  simp only [Bool.and_eq_true, Bool.or_eq_true, beq_iff_eq, List.contains_iff_mem] at h2
  have h3 := hall e he h2.1
  have h4 : listed.getD e.on true = false := by
    rcases h2.2 with h | h
    · rw [h]; exact hi
    · exact hl _ h
  rcases Nat.lt_or_ge e.on listed.size with h' | h'
  · simp [h'] at h3 h4; rw [h3] at h4; cases h4
  · simp [Array.getElem?_eq_none h'] at h3

theorem wpAnyK_first {i : Nat} {oi : Oper} {v : Value} {C : List Nat} (hi : ops[i]? = some oi) (hsel : ∀ (j : Nat) (o : Oper) cs b, ops[j]? = some o → o.op ≠ .select cs b)
    (hQ : ∀ c a w, Q (.panic c) (a.put oi.dst v) w → Q (.panic c) a w) (hC : coneB md ops C i = true) (hkC : k ∈ C) (hiC : i ∉ C) :
    ∀ (fuel : Nat) (listed : Array Bool) (a : Act) (w : World),
      (∀ j oj, ops[j]? = some oj → j ≠ i → listed.getD j true = false → (∀ e ∈ oj.after, Region.binds md e = true → e.on ≠ i) → oi.apart ops oj = true) →
      i ∈ Region.ready md ops listed → YieldsIf P ops S oi v a → S w → (∀ c ∈ C, listed.getD c true = false) →
      wpAnyK P md ops Q S k fuel (listed.setIfInBounds i true) (a.put oi.dst v) w → wpAnyK P md ops Q S k (fuel + 1) listed a w := by
  intro fuel
  induction fuel with
  | zero =>
    intro listed a w _ hr hy hS hl H
    refine ⟨fun h => (by rw [h] at hr; cases hr), fun j hj => ?_⟩
    by_cases hji : j = i
    · subst hji; exact hy.wpOp hi hS ⟨fun _ _ => hS, H⟩
    · have := ready_mono hj hji
      rw [H.1] at this
      cases this
  | succ fuel ih =>
    intro listed a w hfree hr hy hS hl H
    refine ⟨fun h => (by rw [h] at hr; cases hr), fun j hj => ?_⟩
    by_cases hji : j = i
    · subst hji; exact hy.wpOp hi hS ⟨fun _ _ => hS, H⟩
    · have h1 := H.2 j (ready_mono hj hji)
      obtain ⟨hjun, oj, hoj, hall⟩ := mem_ready.1 hj
      have hiun : listed.getD i true = false := (mem_ready.1 hr).1
      have hnot : ∀ e ∈ oj.after, Region.binds md e = true → e.on ≠ i := fun e he hb heq => by
        have h1 := hall e he hb
        have h0 := (mem_ready.1 hr).1
        rw [heq] at h1
        rcases Nat.lt_or_ge i listed.size with h' | h'
        · simp [h'] at h0 h1; rw [h0] at h1; cases h1
        · simp [Array.getElem?_eq_none h'] at h1
      have hjC : j ∉ C := cone_waits hC hl hiun hj
      have hjk : j ≠ k := fun e => hjC (by rw [e]; exact hkC)
      have hik : i ≠ k := fun e => hiC (by rw [e]; exact hkC)
      have hkl : (listed.setIfInBounds i true).getD k true = false := by rw [getD_set_ne true hik]; exact hl k hkC
      have h2 := wpOp_putIf hoj (hfree j oj hoj hji hjun hnot) (fun cs b => hsel i oi cs b hi) (fun cs b => hsel j oj cs b hoj) hQ hy h1
      have hfree' : ∀ m om, ops[m]? = some om → m ≠ i → (listed.setIfInBounds j true).getD m true = false →
          (∀ e ∈ om.after, Region.binds md e = true → e.on ≠ i) → oi.apart ops om = true := fun m om hm hmi hun hno => by
        refine hfree m om hm hmi ?_ hno
        by_cases hjm : j = m
        · subst hjm; exact hjun
        · rw [getD_set_ne true hjm] at hun; exact hun
      have hl' : ∀ c ∈ C, (listed.setIfInBounds j true).getD c true = false := fun c hc => by
        rw [getD_set_ne true (fun e => hjC (by rw [e]; exact hc))]; exact hl c hc
      refine wpOp_mono (fun a' w' h3 => ⟨fun _ _ => h3.2.1 hjk hkl, ih (listed.setIfInBounds j true) a' w' hfree' (ready_mono hr (Ne.symm hji)) h3.1 (h3.2.1 hjk hkl) hl' ?_⟩) h2
      rw [Array.setIfInBounds_comm _ _ hji]
      exact h3.2.2

/-- Take number i first: it yields v in every world that meets S, and number k (that may break S) waits for it. -/
theorem wpAnyK_take {oi : Oper} {v : Value} {fuel : Nat} {listed : Array Bool} {a : Act} {w : World} (i : Nat) (C : List Nat) (hi : ops[i]? = some oi)
    (hs : Region.noSelect ops = true) (hf : Region.free md ops listed i = true) (hr : (Region.ready md ops listed).contains i = true) (hC : coneB md ops C i = true) (hkC : C.contains k = true) (hiC : C.contains i = false) (hl : (C.all fun c => !listed.getD c true) = true)
    (hQ : ∀ c a w, Q (.panic c) (a.put oi.dst v) w → Q (.panic c) a w) (hy : YieldsIf P ops S oi v a) (hS : S w)
    (h : wpAnyK P md ops Q S k fuel (listed.setIfInBounds i true) (a.put oi.dst v) w) : wpAnyK P md ops Q S k (fuel + 1) listed a w :=
  wpAnyK_first hi (Region.noSelect_spec hs) hQ hC (by simpa using hkC) (by simpa using hiC) fuel listed a w (Region.free_spec hi hf) (by simpa using hr) hy hS (fun c hc => by simpa using List.all_eq_true.1 hl c hc) h

/-- Each of these comes up next; S holds behind it. -/
def AllReadyK (P : Program) (md : Region.Mode) (ops : Array Oper) (Q : Exit → Act → World → Prop) (S : World → Prop) (k : Nat) (fuel : Nat) (listed : Array Bool) (a : Act) (w : World) (rs : List Nat) : Prop :=
  ∀ i ∈ rs, wpOp P ops Q i (fun a' w' => (i ≠ k → listed.getD k true = false → S w') ∧ wpAnyK P md ops Q S k fuel (listed.setIfInBounds i true) a' w') a w
theorem AllReadyK.nil {fuel : Nat} {listed : Array Bool} {a : Act} {w : World} : AllReadyK P md ops Q S k fuel listed a w [] := fun _ h => by cases h
theorem AllReadyK.cons {fuel : Nat} {listed : Array Bool} {a : Act} {w : World} {i : Nat} {o : Oper} {rs : List Nat} (ho : ops[i]? = some o)
    (h : ∀ K' : Act → World → Prop, Shut (∀ a w, S w → wpAnyK P md ops Q S k fuel (listed.setIfInBounds i true) a w → K' a w) → if Region.wanted o (yielded ops a.tmps) = true then Oper.wp P o a w K' Q else K' (a.put o.dst undef) w)
    (hs : AllReadyK P md ops Q S k fuel listed a w rs) : AllReadyK P md ops Q S k fuel listed a w (i :: rs) := fun j hj => by
  rcases List.mem_cons.1 hj with rfl | hj
  · exact wpOp_step ho (fun K' hK => h K' (fun a w hS hW => hK a w ⟨fun _ _ => hS, hW⟩))
  · exact hs j hj
/-- At number k itself nothing is asked. -/
theorem AllReadyK.cons_k {fuel : Nat} {listed : Array Bool} {a : Act} {w : World} {i : Nat} {o : Oper} {rs : List Nat} (ho : ops[i]? = some o) (hik : i = k)
    (h : ∀ K' : Act → World → Prop, Shut (∀ a w, wpAny P md ops Q fuel (listed.setIfInBounds i true) a w → K' a w) → if Region.wanted o (yielded ops a.tmps) = true then Oper.wp P o a w K' Q else K' (a.put o.dst undef) w)
    (hs : AllReadyK P md ops Q S k fuel listed a w rs) : AllReadyK P md ops Q S k fuel listed a w (i :: rs) := fun j hj => by
  rcases List.mem_cons.1 hj with rfl | hj
  · refine wpOp_step ho (fun K' hK => h K' (fun a w hW => hK a w ⟨fun e => absurd hik e, wpAnyK_of_any _ _ _ _ ?_ hW⟩))
    subst hik
    rcases Nat.lt_or_ge j listed.size with h1 | h1
    · simp [Array.getD, h1]
    · simp [Array.getD, h1]
  · exact hs j hj
theorem wpAnyK_ready {rs : List Nat} {fuel : Nat} {listed : Array Bool} {a : Act} {w : World} (hr : Region.ready md ops listed = rs) (hne : rs ≠ [])
    (h : AllReadyK P md ops Q S k fuel listed a w rs) : wpAnyK P md ops Q S k (fuel + 1) listed a w :=
  ⟨fun h0 => absurd (hr ▸ h0) hne, hr ▸ h⟩
theorem wp_region_kept {id : Nat} {a : Act} {w : World} (S : World → Prop) (k : Nat) (hm : P.follows .mixedOrders = true)
    (h : wpAnyK P .any ops Q S k ops.size (Array.replicate ops.size false) a w.drew) : (Code.region id ops true).wp P Q a w :=
  wp_region_any hm (wpAny_of_kept _ _ _ _ h)
end
end Go.Proofs.YtjpcdbopioblaaaDoor
