/- A map of the program's, read at a key of its own. -/
import Derived.Test.YtjpcdbopioblaaaDoorFromGo0
import Derived.WideKeyElems
namespace Go.Proofs.YtjpcdbopioblaaaDoor
open Go.RowKit Go.WideMaps Go.Maps Go.WideElems

theorem mapD_get (ks : List ByteArray) (xs : List Value) (hl : xs.length = ks.length) (hu : KeysUp ks) (i : Nat) (hi : i < ks.length) (hx : i < xs.length) (z : DataW Value) :
    (mapD ks xs).atKey (.string ks[i].data.toList) z = .held xs[i] := by
  unfold mapD
  refine WideAt.atKey_mem z trivial ?_ ?_
  · refine List.pairwise_iff_getElem.2 fun a b ha hb hab => ?_
    simp only [List.length_map, List.length_zip] at ha hb
    have ha' : a < ks.length := by omega
    have hb' : b < ks.length := by omega
    simp only [List.getElem_map, List.getElem_zip]
    intro e
    have hlt := hu.lt' hab hb'
    have e2 : ks[a].data.toList = ks[b].data.toList := by injection e
    rw [ByteArray.toList_eq, ByteArray.toList_eq, e2, less_irrefl] at hlt
    cases hlt
  · refine List.mem_map.2 ⟨(ks[i], xs[i]), ?_, rfl⟩
    rw [List.mem_iff_getElem]
    exact ⟨i, by simp; omega, by simp⟩

set_option maxRecDepth 100000 in
theorem lookup_run (w : World) (r n : Nat) (ks : List ByteArray) (xs : List Value) (hm : w.ownsMap Tryd.prog 9 heldR r n (mapD ks xs)) (hl : xs.length = ks.length) (hu : KeysUp ks) (i : Nat) (hi : i < ks.length) (hx : i < xs.length) (hs : ks[i].size ≤ maxLen) :
    (Instr.lookup 94 (.map (some r)) (.string ks[i]) false).run Tryd.prog w = .ok xs[i] w := by
  have hg := mapD_get ks xs hl hu i hi hx .nil
  obtain ⟨es, clock, hb, F, hn, hD⟩ := hm
  have zero : (zeroValue 20).run Tryd.prog w = .ok .nilIface w := by kernel_rfl
  rw [hD] at hg
  rcases fit_lookup (w := w) (string_law Tryd.underlying9) Tryd.underlying94 zero hb F (keyOf_string_mk (s := ks[i]) Tryd.underlying9 hs) with ⟨_, hat⟩ | ⟨v, y, hrun, hR, hat, _⟩
  · rw [hat] at hg; cases hg
  · rw [hat] at hg
    unfold heldR at hR
    injection hR with hR
    subst hR
    injection hg with hg
    subst hg
    exact hrun
end Go.Proofs.YtjpcdbopioblaaaDoor
