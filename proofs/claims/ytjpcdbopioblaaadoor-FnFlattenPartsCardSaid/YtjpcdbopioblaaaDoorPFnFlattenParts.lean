/- FnFlattenParts: the row and its tied card. -/
import Derived.Test.YtjpcdbopioblaaaDoorFlatLaw
import Derived.Test.YtjpcdbopioblaaaDoorLay
import Derived.Test.YtjpcdbopioblaaaDoorOpenL
import Derived.Test.YtjpcdbopioblaaaDoorTie
import Derived.Test.YtjpcdbopioblaaaDoorCards
import Derived.SevenTiedAt
import Derived.ChangeMaps5
namespace Go.Proofs.YtjpcdbopioblaaaDoor
open Go.ChangeShapes Go.WideShapes Go.ChangeAt Go.RowKit

set_option maxRecDepth 100000 in
theorem fnFlattenParts_lifted (os : Os) (started : os.Started) (H : Type) (enc : TypeId × Value → H) :
    ReturnsInHanded {} Tryd.checked os 5 .any (fun w args => (Rows.fnFlattenPartsSpec.pre enc Tryd.prog Tryd.f5 [] false w args ∧ laidMetH Tryd.prog Laid w) ∧ sizedMet enc Tryd.prog Tryd.f5 (OpenSpec.ofChange Rows.fnFlattenPartsSpec) false w args)
      (Rows.fnFlattenPartsSpec.post enc Tryd.prog Tryd.f5 false true false false) := by
  refine returnsInHanded_of_change_and (C := Tryd.checked) (X := fun w _ => laidMetH Tryd.prog Laid w) (fun _ _ _ hh h => h.of_heap hh) Tryd.own started (by kernel_rfl) Tryd.func5
    (ChangeSpec.witness_at (enc := enc) (C := Tryd.checked) (os := os) (X := fun w _ => laidMetH Tryd.prog Laid w) false (laidWorld os) #[.slice none 0 0, .slice none 0 0, .int .i8 0] 8 rfl (by kernel_rfl) (by kernel_rfl) (by kernel_rfl) (by kernel_rfl) (by kernel_rfl) (laid_met os _)) ?_
  intro W base args ds gs before hval0 hW _ hsz0 hL _
  have hval : ∀ (j : Nat) t v, Tryd.f5.params[j]? = some t → args[j]? = some v → Value.okWide Tryd.prog W .any base t v := hval0
  have hsz : (DataW.weightsEach Tryd.prog (Tryd.f5.params.toList ++ []) (ds ++ gs)).all (· ≤ reachBytes) = true := hsz0
  clear hsz0
  have hW' := hW
  obtain ⟨p, q, hA0, hV, rfl, hfz, hnd⟩ := hW
  have hA : DataW.TrodAll enc Tryd.prog W 0 (fun _ => true) true Tryd.f5.params.toList args.toList ds p := hA0
  rw [Tryd.params5] at hA hval hsz
  obtain ⟨v0, v1, v2, d0, d1, d2, p0, p1, p2, rfl, rfl, rfl, h0, h1, h2⟩ := trodAll_three hA
  obtain ⟨rfl, rfl⟩ := trodVars_none hV
  have hsz1 := fun k hk => of_decide_eq_true (List.all_eq_true.1 hsz k hk)
  simp only [List.append_nil, DataW.weightsEach, List.mem_append] at hsz1
  have h0k := h0
  obtain ⟨l0, a0, c0, rfl, hl0, hx0⟩ := open_list (hval 0 23 v0 rfl rfl) h0 (fun k hk => hsz1 k (.inl hk))
  have h0 := h0k
  have h1k := h1
  obtain ⟨l1, a1, c1, rfl, hl1, hx1⟩ := open_list (hval 1 23 v1 rfl rfl) h1 (fun k hk => hsz1 k (.inr (.inl hk)))
  have h1 := h1k
  have h2k := h2
  obtain ⟨n2, rfl, rfl, rfl, wn2⟩ := open_int Tryd.underlying40 (hval 2 40 v2 rfl rfl) h2
  have h2 := h2k
  simp only [List.append_nil] at hW'
  have hlt : ∀ (x : MemPlace), x ∈ p0 ++ (p1 ++ ([] : List MemPlace)) → x.block < W.heap.size := fun x hx => by simpa using hW'.lt x (by simpa using hx)
  refine (fnFlattenParts_law_at hl0 hx0 hl1 hx1 (i8_of_wf wn2) (tabs_of_laid hL)).mono ?_
  rintro e W' ⟨rfl, hb⟩
  refine ⟨_, rfl, _, _, _, [], p0 ++ (p1 ++ ([] : List MemPlace)), [], hW', ?_, ?_, ?_, hb.frame _, fun h => by cases h⟩
  · exact trodAll_mk1 (shut_bool Tryd.underlying4 true)
  · exact trodAll_mk3 (Below.trod Tryd.laidOut (by kernel_rfl) (of_decide_eq_true (by kernel_rfl)) h0 hb (fun x hx => hlt x (by simp [hx]))) (Below.trod Tryd.laidOut (by kernel_rfl) (of_decide_eq_true (by kernel_rfl)) h1 hb (fun x hx => hlt x (by simp [hx]))) (Below.trod Tryd.laidOut (by kernel_rfl) (of_decide_eq_true (by kernel_rfl)) h2 hb (fun x hx => by simp at hx))
  · rfl

theorem fnFlattenParts_holds : Rows.FnFlattenPartsSaid :=
  OpenClaim.holds_of_wide 5 Tryd.f5 rfl rfl rfl rfl rfl rfl rfl ⟨rfl, rfl, rfl, rfl, rfl⟩ rfl rfl rfl rfl rfl (by kernel_rfl) Tryd.func5 (by kernel_rfl)
    (of_decide_eq_true (by kernel_rfl)) (by unfold Func.isWrapper; first | (rw [if_pos (by decide +kernel)]; kernel_rfl) | (rw [if_neg (by decide +kernel)]; exact ⟨rfl, rfl⟩))
    (fun os started H enc _ => fnFlattenParts_lifted os started H enc)

theorem fnFlattenParts_card_holds : Rows.FnFlattenPartsCardSaid :=
  Claim7.holds_tied_plain_at .later [] [.data, .pinned] true Rows.fnFlattenPartsCard.stood.harness Rows.fnFlattenPartsCard.stood.looks
    fnFlattenParts_holds (fun _ h => by cases h) (by kernel_rfl) (fun _ h => by cases h) fnFlattenParts_row_tie rfl ⟨rfl, rfl⟩ (by kernel_rfl) rfl
    (fun f fn hf hfn => by
      obtain rfl : f = 5 := Option.some.inj ((show Tryd.prog.funcNamed "pub-strainer/laws.FnFlattenParts" = some 5 by kernel_rfl).symm.trans hf) |>.symm
      obtain rfl : fn = Tryd.f5 := (Option.some.inj (Tryd.func5.symm.trans hfn)).symm
      exact ⟨by kernel_rfl, fun j t ht => by
        rw [Tryd.params5] at ht
        have hm : t ∈ [23, 23, 40] := by simpa using Array.mem_of_getElem? ht
        have hall : ([23, 23, 40].all fun u => !Tryd.prog.wantsStandIn u) = true := by kernel_rfl
        exact (show Tryd.prog.wantsStandIn t = false by simpa using List.all_eq_true.1 hall t hm)⟩)
    (by kernel_rfl)
#print axioms fnFlattenParts_card_holds
end Go.Proofs.YtjpcdbopioblaaaDoor
