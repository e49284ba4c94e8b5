/- FnURIBack: the row and its tied card. -/
import Derived.Test.YtjpcdbopioblaaaGreatDoorUriLaw
import Derived.Test.YtjpcdbopioblaaaGreatDoorLayU
import Derived.Test.YtjpcdbopioblaaaGreatDoorTie
import Derived.Test.YtjpcdbopioblaaaGreatDoorCards
import Derived.SevenTiedAt
import Derived.ChangeMaps5
namespace Go.Proofs.YtjpcdbopioblaaaGreatDoor
open Go.ChangeShapes Go.WideShapes Go.ChangeAt Go.RowKit

set_option maxRecDepth 100000 in
theorem fnURIBack_lifted (os : Os) (started : os.Started) (H : Type) (enc : TypeId × Value → H) :
    ReturnsInHanded {} Tryz.checked os 6 .any (fun w args => (Rows.fnURIBackSpec.pre enc Tryz.prog Tryz.f6 [] false w args ∧ laidMetH Tryz.prog LaidU w) ∧ sizedMet enc Tryz.prog Tryz.f6 (OpenSpec.ofChange Rows.fnURIBackSpec) false w args)
      (Rows.fnURIBackSpec.post enc Tryz.prog Tryz.f6 false true false false) := by
  refine returnsInHanded_of_change_and (C := Tryz.checked) (X := fun w _ => laidMetH Tryz.prog LaidU w) (fun _ _ _ hh h => h.of_heap hh) Tryz.own started (by kernel_rfl) Tryz.func6
    (ChangeSpec.witness_at (enc := enc) (C := Tryz.checked) (os := os) (X := fun w _ => laidMetH Tryz.prog LaidU w) false (laidWorldU os) #[.string ⟨#[]⟩] 8 rfl (by kernel_rfl) (by kernel_rfl) (by kernel_rfl) (by kernel_rfl) (by kernel_rfl) (laid_metU os _)) ?_
  intro W base args ds gs before hval0 hW _ hsz0 hL _
  have hval : ∀ (j : Nat) t v, Tryz.f6.params[j]? = some t → args[j]? = some v → Value.okWide Tryz.prog W .any base t v := hval0
  have hsz : (DataW.weightsEach Tryz.prog (Tryz.f6.params.toList ++ []) (ds ++ gs)).all (· ≤ reachBytes) = true := hsz0
  clear hsz0
  have hW' := hW
  obtain ⟨p, q, hA0, hV, rfl, hfz, hnd⟩ := hW
  have hA : DataW.TrodAll enc Tryz.prog W 0 (fun _ => true) true Tryz.f6.params.toList args.toList ds p := hA0
  rw [Tryz.params6] at hA hval hsz
  obtain ⟨v0, d0, rfl, rfl, h0⟩ := trodAll_one hA
  obtain ⟨rfl, rfl⟩ := trodVars_none hV
  have hsz1 := fun k hk => of_decide_eq_true (List.all_eq_true.1 hsz k hk)
  simp only [List.append_nil, DataW.weightsEach] at hsz1
  have h0k := h0
  obtain ⟨s0, rfl, rfl, rfl, ws0⟩ := ChangeMaps.open_string Tryz.underlying9 (hval 0 9 v0 rfl rfl) h0
  have h0 := h0k
  have hz0 : s0.size ≤ reachN := by have := hsz1 s0.data.toList.length (by simp [DataW.weights]); have e : s0.data.toList.length = s0.size := Array.length_toList; rw [e] at this; exact this
  simp only [List.append_nil] at hW'
  refine (fnURIBack_law_at hz0 (tabs_of_laidU hL) (tabU_of_laid hL)).mono ?_
  rintro e W' ⟨rfl, hb⟩
  refine ⟨_, rfl, _, _, _, [], ([] : List MemPlace), [], hW', ?_, ?_, ?_, hb.frame _, fun h => by cases h⟩
  · exact trodAll_mk1 (shut_bool Tryz.underlying4 true)
  · exact trodAll_mk1 (Below.trod Tryz.laidOut (by kernel_rfl) (of_decide_eq_true (by kernel_rfl)) h0 hb (fun x hx => by simp at hx))
  · rfl

theorem fnURIBack_holds : Rows.FnURIBackSaid :=
  OpenClaim.holds_of_wide 6 Tryz.f6 rfl rfl rfl rfl rfl rfl rfl ⟨rfl, rfl, rfl, rfl, rfl⟩ rfl rfl rfl rfl rfl (by kernel_rfl) Tryz.func6 (by kernel_rfl)
    (of_decide_eq_true (by kernel_rfl)) (by unfold Func.isWrapper; first | (rw [if_pos (by decide +kernel)]; kernel_rfl) | (rw [if_neg (by decide +kernel)]; exact ⟨rfl, rfl⟩))
    (fun os started H enc _ => fnURIBack_lifted os started H enc)

theorem fnURIBack_card_holds : Rows.FnURIBackCardSaid :=
  Claim7.holds_tied_plain_at .later [] [.data, .data, .pinned] true Rows.fnURIBackCard.stood.harness Rows.fnURIBackCard.stood.looks
    fnURIBack_holds (fun _ h => by cases h) (by kernel_rfl) (fun _ h => by cases h) fnURIBack_row_tie rfl ⟨rfl, rfl⟩ (by kernel_rfl) rfl
    (fun f fn hf hfn => by
      obtain rfl : f = 6 := Option.some.inj ((show Tryz.prog.funcNamed "pub-strainer/laws.FnURIBack" = some 6 by kernel_rfl).symm.trans hf) |>.symm
      obtain rfl : fn = Tryz.f6 := (Option.some.inj (Tryz.func6.symm.trans hfn)).symm
      exact ⟨by kernel_rfl, fun j t ht => by
        rw [Tryz.params6] at ht
        have hm : t ∈ [9] := by simpa using Array.mem_of_getElem? ht
        have hall : ([9].all fun u => !Tryz.prog.wantsStandIn u) = true := by kernel_rfl
        exact (show Tryz.prog.wantsStandIn t = false by simpa using List.all_eq_true.1 hall t hm)⟩)
    (by kernel_rfl)
#print axioms fnURIBack_card_holds
end Go.Proofs.YtjpcdbopioblaaaGreatDoor
