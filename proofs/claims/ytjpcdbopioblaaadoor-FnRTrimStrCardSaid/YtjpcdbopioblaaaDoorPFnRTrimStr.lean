/- FnRTrimStr: the row and its tied card. -/
import Derived.Test.YtjpcdbopioblaaaDoorRTrimStr
import Derived.Test.YtjpcdbopioblaaaDoorLay
import Derived.Test.YtjpcdbopioblaaaDoorTie
import Derived.Test.YtjpcdbopioblaaaDoorCards
import Derived.SevenTiedAt
import Derived.ChangeMaps5
namespace Go.Proofs.YtjpcdbopioblaaaDoor
open Go.ChangeShapes Go.WideShapes Go.ChangeAt Go.RowKit

set_option maxRecDepth 100000 in
theorem fnRTrimStr_lifted (os : Os) (started : os.Started) (H : Type) (enc : TypeId × Value → H) :
    ReturnsInHanded {} Tryd.checked os 8 .any (fun w args => (Rows.fnRTrimStrSpec.pre enc Tryd.prog Tryd.f8 [] false w args ∧ laidMetH Tryd.prog Laid w) ∧ sizedMet enc Tryd.prog Tryd.f8 (OpenSpec.ofChange Rows.fnRTrimStrSpec) false w args)
      (Rows.fnRTrimStrSpec.post enc Tryd.prog Tryd.f8 false true false false) := by
  refine returnsInHanded_of_change_and (C := Tryd.checked) (X := fun w _ => laidMetH Tryd.prog Laid w) (fun _ _ _ hh h => h.of_heap hh) Tryd.own started (by kernel_rfl) Tryd.func8
    (ChangeSpec.witness_at (enc := enc) (C := Tryd.checked) (os := os) (X := fun w _ => laidMetH Tryd.prog Laid w) false (laidWorld os) #[.string ⟨#[]⟩, .string ⟨#[]⟩] 8 rfl (by kernel_rfl) (by kernel_rfl) (by kernel_rfl) (by kernel_rfl) (by kernel_rfl) (laid_met os _)) ?_
  intro W base args ds gs before hval0 hW _ hsz0 hL _
  have hval : ∀ (j : Nat) t v, Tryd.f8.params[j]? = some t → args[j]? = some v → Value.okWide Tryd.prog W .any base t v := hval0
  have hsz : (DataW.weightsEach Tryd.prog (Tryd.f8.params.toList ++ []) (ds ++ gs)).all (· ≤ reachBytes) = true := hsz0
  clear hsz0
  have hW' := hW
  obtain ⟨p, q, hA0, hV, rfl, hfz, hnd⟩ := hW
  have hA : DataW.TrodAll enc Tryd.prog W 0 (fun _ => true) true Tryd.f8.params.toList args.toList ds p := hA0
  rw [Tryd.params8] at hA hval hsz
  obtain ⟨v0, v1, d0, d1, p0, p1, rfl, rfl, rfl, h0, h1⟩ := trodAll_two hA
  obtain ⟨rfl, rfl⟩ := trodVars_none hV
  have hsz1 := fun k hk => of_decide_eq_true (List.all_eq_true.1 hsz k hk)
  simp only [List.append_nil, DataW.weightsEach, List.mem_append] at hsz1
  have h0k := h0
  obtain ⟨s0, rfl, rfl, rfl, ws0⟩ := ChangeMaps.open_string Tryd.underlying9 (hval 0 9 v0 rfl rfl) h0
  have h0 := h0k
  have hz0 : s0.size ≤ reachN := by have := hsz1 s0.data.toList.length (.inl (by simp [DataW.weights])); have e : s0.data.toList.length = s0.size := Array.length_toList; rw [e] at this; exact this
  have h1k := h1
  obtain ⟨s1, rfl, rfl, rfl, ws1⟩ := ChangeMaps.open_string Tryd.underlying9 (hval 1 9 v1 rfl rfl) h1
  have h1 := h1k
  have hz1 : s1.size ≤ reachN := by have := hsz1 s1.data.toList.length (.inr (by simp [DataW.weights])); have e : s1.data.toList.length = s1.size := Array.length_toList; rw [e] at this; exact this
  simp only [List.append_nil] at hW'
  refine (fnRTrimStr_law_at hz0 hz1 (tabs_of_laid hL)).mono ?_
  rintro e W' ⟨rfl, hb⟩
  refine ⟨_, rfl, _, _, _, [], ([] : List MemPlace) ++ ([] : List MemPlace), [], hW', ?_, ?_, ?_, hb.frame _, fun h => by cases h⟩
  · exact trodAll_mk1 (shut_bool Tryd.underlying4 true)
  · exact trodAll_mk2 (Below.trod Tryd.laidOut (by kernel_rfl) (of_decide_eq_true (by kernel_rfl)) h0 hb (fun x hx => by simp at hx)) (Below.trod Tryd.laidOut (by kernel_rfl) (of_decide_eq_true (by kernel_rfl)) h1 hb (fun x hx => by simp at hx))
  · rfl

theorem fnRTrimStr_holds : Rows.FnRTrimStrSaid :=
  OpenClaim.holds_of_wide 8 Tryd.f8 rfl rfl rfl rfl rfl rfl rfl ⟨rfl, rfl, rfl, rfl, rfl⟩ rfl rfl rfl rfl rfl (by kernel_rfl) Tryd.func8 (by kernel_rfl)
    (of_decide_eq_true (by kernel_rfl)) (by unfold Func.isWrapper; first | (rw [if_pos (by decide +kernel)]; kernel_rfl) | (rw [if_neg (by decide +kernel)]; exact ⟨rfl, rfl⟩))
    (fun os started H enc _ => fnRTrimStr_lifted os started H enc)

theorem fnRTrimStr_card_holds : Rows.FnRTrimStrCardSaid :=
  Claim7.holds_tied_plain_at .later [] [.data, .pinned] true Rows.fnRTrimStrCard.stood.harness Rows.fnRTrimStrCard.stood.looks
    fnRTrimStr_holds (fun _ h => by cases h) (by kernel_rfl) (fun _ h => by cases h) fnRTrimStr_row_tie rfl ⟨rfl, rfl⟩ (by kernel_rfl) rfl
    (fun f fn hf hfn => by
      obtain rfl : f = 8 := Option.some.inj ((show Tryd.prog.funcNamed "pub-strainer/laws.FnRTrimStr" = some 8 by kernel_rfl).symm.trans hf) |>.symm
      obtain rfl : fn = Tryd.f8 := (Option.some.inj (Tryd.func8.symm.trans hfn)).symm
      exact ⟨by kernel_rfl, fun j t ht => by
        rw [Tryd.params8] at ht
        have hm : t ∈ [9, 9] := by simpa using Array.mem_of_getElem? ht
        have hall : ([9, 9].all fun u => !Tryd.prog.wantsStandIn u) = true := by kernel_rfl
        exact (show Tryd.prog.wantsStandIn t = false by simpa using List.all_eq_true.1 hall t hm)⟩)
    (by kernel_rfl)
#print axioms fnRTrimStr_card_holds
end Go.Proofs.YtjpcdbopioblaaaDoor
