/- FnFormatHTML: the row and its tied card. -/
import Derived.Test.YtjpcdbopioblaaaGreatDoorMh5
import Derived.Test.YtjpcdbopioblaaaGreatDoorMh12
import Derived.Test.YtjpcdbopioblaaaGreatDoorTie
import Derived.Test.YtjpcdbopioblaaaGreatDoorCards
import Derived.SevenTiedAt
import Derived.ChangeMaps5
namespace Go.Proofs.YtjpcdbopioblaaaGreatDoor
open Go.ChangeShapes Go.WideShapes Go.ChangeAt Go.RowKit

set_option maxRecDepth 100000 in
theorem fnFormatHTML_lifted (os : Os) (started : os.Started) (H : Type) (enc : TypeId × Value → H) :
    ReturnsInHanded {} Tryz.checked os 5 .any (fun w args => (Rows.fnFormatHTMLSpec.pre enc Tryz.prog Tryz.f5 [] false w args ∧ laidMetH Tryz.prog Laid w) ∧ sizedMet enc Tryz.prog Tryz.f5 (OpenSpec.ofChange Rows.fnFormatHTMLSpec) false w args)
      (Rows.fnFormatHTMLSpec.post enc Tryz.prog Tryz.f5 false true false false) := by
  refine returnsInHanded_of_change_and (C := Tryz.checked) (X := fun w _ => laidMetH Tryz.prog Laid w) (fun _ _ _ hh h => h.of_heap hh) Tryz.own started (by kernel_rfl) Tryz.func5
    (ChangeSpec.witness_at (enc := enc) (C := Tryz.checked) (os := os) (X := fun w _ => laidMetH Tryz.prog Laid w) false (laidWorld os) #[.agg #[.int .i64 0, .int .i64 0, .string ⟨#[]⟩, .slice none 0 0, .slice none 0 0, .slice none 0 0]] 8 rfl (by kernel_rfl) (by kernel_rfl) (by kernel_rfl) (by kernel_rfl) (by kernel_rfl) (laid_met os _)) ?_
  intro W base args ds gs before hval0 hW _ hsz0 hL _
  have hval : ∀ (j : Nat) t v, Tryz.f5.params[j]? = some t → args[j]? = some v → Value.okWide Tryz.prog W .any base t v := hval0
  have hsz : (DataW.weightsEach Tryz.prog (Tryz.f5.params.toList ++ []) (ds ++ gs)).all (· ≤ reachBytes) = true := hsz0
  clear hsz0
  have hW' := hW
  obtain ⟨p, q, hA0, hV, rfl, hfz, hnd⟩ := hW
  have hA : DataW.TrodAll enc Tryz.prog W 0 (fun _ => true) true Tryz.f5.params.toList args.toList ds p := hA0
  rw [Tryz.params5] at hA hval hsz
  obtain ⟨v0, d0, rfl, rfl, h0⟩ := trodAll_one hA
  obtain ⟨rfl, rfl⟩ := trodVars_none hV
  have hsz1 := fun k hk => of_decide_eq_true (List.all_eq_true.1 hsz k hk)
  simp only [List.append_nil, DataW.weightsEach] at hsz1
  obtain ⟨x0, hx0⟩ := open_value (hval 0 27 v0 rfl rfl) h0 (fun k hk => hsz1 k hk)
  simp only [List.append_nil] at hW'
  have hlt : ∀ (x : MemPlace), x ∈ p → x.block < W.heap.size := fun x hx => by simpa using hW'.lt x (by simpa using hx)
  refine (fnFormatHTML_law_at hx0 (tabs_of_laid hL)).mono ?_
  rintro e W' ⟨rfl, hb⟩
  refine ⟨_, rfl, _, _, _, [], p, [], hW', ?_, ?_, ?_, hb.frame _, fun h => by cases h⟩
  · exact trodAll_mk1 (shut_bool Tryz.underlying4 true)
  · exact trodAll_mk1 (Below.trod Tryz.laidOut (by kernel_rfl) (of_decide_eq_true (by kernel_rfl)) h0 hb (fun x hx => hlt x (by simp [hx])))
  · rfl

theorem fnFormatHTML_holds : Rows.FnFormatHTMLSaid :=
  OpenClaim.holds_of_wide 5 Tryz.f5 rfl rfl rfl rfl rfl rfl rfl ⟨rfl, rfl, rfl, rfl, rfl⟩ rfl rfl rfl rfl rfl (by kernel_rfl) Tryz.func5 (by kernel_rfl)
    (of_decide_eq_true (by kernel_rfl)) (by unfold Func.isWrapper; first | (rw [if_pos (by decide +kernel)]; kernel_rfl) | (rw [if_neg (by decide +kernel)]; exact ⟨rfl, rfl⟩))
    (fun os started H enc _ => fnFormatHTML_lifted os started H enc)

theorem fnFormatHTML_card_holds : Rows.FnFormatHTMLCardSaid :=
  Claim7.holds_tied_plain_at .later [] [.data, .pinned] true Rows.fnFormatHTMLCard.stood.harness Rows.fnFormatHTMLCard.stood.looks
    fnFormatHTML_holds (fun _ h => by cases h) (by kernel_rfl) (fun _ h => by cases h) fnFormatHTML_row_tie rfl ⟨rfl, rfl⟩ (by kernel_rfl) rfl
    (fun f fn hf hfn => by
      obtain rfl : f = 5 := Option.some.inj ((show Tryz.prog.funcNamed "pub-strainer/laws.FnFormatHTML" = some 5 by kernel_rfl).symm.trans hf) |>.symm
      obtain rfl : fn = Tryz.f5 := (Option.some.inj (Tryz.func5.symm.trans hfn)).symm
      exact ⟨by kernel_rfl, fun j t ht => by
        rw [Tryz.params5] at ht
        have hm : t ∈ [27] := by simpa using Array.mem_of_getElem? ht
        have hall : ([27].all fun u => !Tryz.prog.wantsStandIn u) = true := by kernel_rfl
        exact (show Tryz.prog.wantsStandIn t = false by simpa using List.all_eq_true.1 hall t hm)⟩)
    (by kernel_rfl)
#print axioms fnFormatHTML_card_holds
end Go.Proofs.YtjpcdbopioblaaaGreatDoor
