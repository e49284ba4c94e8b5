/- strings.Builder as a writer of the JSON encoder's; (*strings.Builder).Write walked. -/
import Derived.Test.YtjpcdbopioblaaaBuilderL
import Derived.Test.YtjpcdbopioblaaaEncW
import Derived.Lib.FrozenHead2
import Derived.Lib.OthersKept
import Derived.Lib.Hide
import Derived.WalkKit
namespace Go.Proofs.Ytjpcdbopioblaaa
open Go.RowKit

theorem byteInfoW : ∃ i : TypeInfo, Try.prog.info? 5 = some i ∧ i.zero = some (.int .u8 0) ∧ i.size = 1 ∧ i.bytes = 1 := by
  have hinfo : (Try.prog.info? 5).map (fun i => (i.zero, i.size, i.bytes)) = some (some (Value.int IntKind.u8 0), 1, 1) := by kernel_rfl
  obtain ⟨i, hi, he⟩ := Option.map_eq_some_iff.1 hinfo
  simp only [Prod.mk.injEq] at he
  exact ⟨i, hi, he.1, he.2.1, he.2.2⟩

set_option maxRecDepth 100000 in
set_option maxHeartbeats 1600000 in
theorem bld_Write_k (B b : Nat) (bs : List Value) (g o n cap : Nat) (cs : Array Value) (news : List Value) (hn : news.length = n) (w : World) (h : Lib.IsBuilderF 27 5 B b bs w) (hg : w.heap[g]? = some (.cells cs 35 (0, 0)))
    (hnews : ∀ j u, news[j]? = some u → cs[o + j]? = some u) (h1n : ∀ u ∈ news, u.oneCell' = true) (hlen : bs.length + n ≤ 140737488355328) (hBw : B ≤ w.heap.size) :
    Calls Try.prog 51 #[.pointer (some ⟨b, 0, none⟩), .slice (some ⟨g, o, none⟩) n cap] w fun e w' => e = .returned (.tuple #[.int .i64 n, .nilIface]) ∧ (Lib.BuilderAtF 27 5 B b (.pointer (some ⟨b, 0, none⟩)) (bs ++ news) w' ∧ Below B w w' ∧ Lib.OthersKept 5 (some b) w w') := by
  obtain ⟨i0, hi, hz0, hz1, hz2⟩ := byteInfoW
  have HN := Lib.hid (And.intro hnews (And.intro h1n (And.intro hg hn)))
  have HC := Lib.hid (Any.Builder_copyCheck_k Go.Proofs.Try.bld240 Go.Proofs.Try.bld_Extra.toX72 B b bs w h)
  have HNe : Hid (g ≠ b) := Lib.hid (by
    rintro rfl
    rcases h with ⟨_, v, h1, _⟩ | ⟨_, v, h1, _⟩
    · rw [hg] at h1; injection h1 with h1; injection h1 with _ h1 _; exact absurd h1 (by decide)
    · rw [hg] at h1; injection h1 with h1; injection h1 with _ h1 _; exact absurd h1 (by decide))
  clear hnews h1n hg h hn
  go_enter Try.func51, Try.ntmps51
  go_wp2_with fail
  refine HC.out.mono ?_
  rintro e w1 ⟨rfl, h1, hb1, hk1⟩
  obtain ⟨hB, v, hbk, hown, hne⟩ := h1
  have c0 : w1.cell? ⟨b, 0, none⟩ = some (.pointer (some ⟨b, 0, none⟩)) := by rw [Lib.cell_of_heap hbk]; rfl
  have c1 : w1.cell? ⟨b, 1, none⟩ = some v := by rw [Lib.cell_of_heap hbk]; rfl
  have HG1 : Hid (∀ j u, news[j]? = some u → w1.cell? ((⟨g, o, none⟩ : Addr).add j) = some u) := Lib.hid fun j u hj => by
    have h2 := hk1 g _ HN.out.2.2.1 (fun e => HNe.out (by injection e)) (fun c fz e => by injection e with _ e _; cases e)
    have e : (⟨g, o, none⟩ : Addr).add j = ⟨g, o + j, none⟩ := by unfold Addr.add; split <;> simp_all
    rw [e]
    simp only [World.cell?, h2]
    exact HN.out.1 j u hj
  go_wp2_with (at_builtin; refine wpList_append_ownF _ rfl _ _ 25 rfl B 5 i0 (.int .u8 0) 1 1 Try.underlying25 hi hz0 hz1 hz2 rfl (by decide) _ _ _ rfl hown ⟨g, o, none⟩ n cap news rfl (by rw [Nat.mul_one]; exact HN.out.2.2.2) HG1.out HN.out.2.1 ?c3 ?c4 ?c5 ?_)
  case c3 => unfold maxLen; omega
  case c4 => omega
  case c5 => have := hb1.size; omega
  intro v' w2 hown' hgrow _
  have hlt : b < w1.heap.size := by
    rcases Nat.lt_or_ge b w1.heap.size with h' | h'
    · exact h'
    · simp [Array.getElem?_eq_none h'] at hbk
  have hb2 : w2.heap[b]? = some (.cells #[.pointer (some ⟨b, 0, none⟩), v] 27 (0, 0)) := by
    rw [hgrow.block b hlt (fun e => hne e.symm)]
    exact hbk
  have d0 : w2.cell? ⟨b, 0, none⟩ = some (.pointer (some ⟨b, 0, none⟩)) := by rw [Lib.cell_of_heap hb2]; rfl
  have d1 : w2.cell? ⟨b, 1, none⟩ = some v := by rw [Lib.cell_of_heap hb2]; rfl
  have f1 : w2.frozen? ⟨b, 1, none⟩ = false := Lib.frozen_of_heap hb2 1
  obtain ⟨g', cap', rfl⟩ : ∃ g' cap', v' = .slice g' (bs.length + n) cap' := by
    rcases hown'.2 with ⟨h0, h00⟩ | ⟨g', cap', cur, fz, hv, _⟩
    · exact ⟨none, 0, by rw [h0, h00]⟩
    · exact ⟨_, cap', hv⟩
  have HR : Hid (Lib.BuilderAtF 27 5 B b (.pointer (some ⟨b, 0, none⟩)) (bs ++ news) (w2.setCell ⟨b, 1, none⟩ (.slice g' (bs.length + n) cap'))) := Lib.hid (Lib.BuilderAtF.put (T := 27) (e := 5) hB hb2 (bs' := bs ++ news) (by have := hown'; rw [← HN.out.2.2.2] at this; simpa [HN.out.2.2.2] using hown') Go.Proofs.Try.bld_Extra.neB5)
  have HR2 : Hid (Below B w (w2.setCell ⟨b, 1, none⟩ (.slice g' (bs.length + n) cap'))) := Lib.hid ((hb1.grown hgrow (by have := hb1.size; omega) (fun k hk => (hown.lt k hk).1)).setCell (p := ⟨b, 1, none⟩) hB _)
  have HR3 : Hid (Lib.OthersKept 5 (some b) w (w2.setCell ⟨b, 1, none⟩ (.slice g' (bs.length + n) cap'))) := Lib.hid ((hk1.grown hgrow (Lib.ownsRowF_kind hown)).setCell ⟨b, 1, none⟩ rfl _)
  clear hown' hgrow hown hk1 hb1
  go_wp2
  go_ret2
  exact ⟨rfl, HR.out, HR2.out, HR3.out⟩

/-- The builder as a writer. -/
def bldWr : Wr := { T := 24, fb := 57, fs := 52, fw := 51, Is := fun B b l w => Lib.IsBuilderF 27 5 B b (Lib.byteCells l) w }
theorem bldF_kept {B b : Nat} {p : Value} {bs : List Value} {W W' : World} (h : Lib.BuilderAtF 27 5 B b p bs W) (hk : Lib.OthersKept 35 none W W') : Lib.BuilderAtF 27 5 B b p bs W' := by
  obtain ⟨h1, v, h2, ⟨hl, h3⟩, h4⟩ := h
  refine ⟨h1, v, hk b _ h2 (by simp) (fun c fz e => by injection e with _ e _; cases e), ⟨hl, ?_⟩, h4⟩
  rcases h3 with h3 | ⟨g, cap, cur, fz, hv, hb, hg, hr⟩
  · exact .inl h3
  · exact .inr ⟨g, cap, cur, fz, hv, hb, hk g _ hg (by simp) (fun c fz e => by injection e with _ e _; cases e), hr⟩
theorem bldWr_keeps : bldWr.Keeps := ⟨fun B b l W W' h hk => h.elim (fun x => .inl (bldF_kept x hk)) (fun x => .inr (bldF_kept x hk))⟩
theorem bldWr_writes : bldWr.Writes where
  meth := fun p w => by show (method 185 24 (.pointer p) "Write").run Try.prog w = .ok (51, .pointer p) w; kernel_rfl
  enter := fun args w => by show (callFunc 51 args).run Try.prog w = .ok (.enter 51 args) w; exact enters_of Try.func51 (by kernel_rfl) rfl args w
  write := fun B b eb o n cap l t cs w h he hn hc hl hB => by
    subst hn
    refine (bld_Write_k B b (Lib.byteCells l) eb o t.length cap cs (Lib.byteCells t) (by simp [Lib.byteCells]) w h he (fun j u hj => ?_) (fun u hu => ?_) (by simpa [Lib.byteCells] using hl) hB).mono fun e w' ⟨he, h1, h2, h3⟩ => ⟨he, .inr (by simpa [Lib.byteCells] using h1), h2, h3⟩
    · simp only [Lib.byteCells, List.getElem?_map, Option.map_eq_some_iff] at hj
      obtain ⟨c, hc2, rfl⟩ := hj
      obtain ⟨hlt, rfl⟩ := List.getElem?_eq_some_iff.1 hc2
      exact hc j hlt
    · simp only [Lib.byteCells, List.mem_map] at hu
      obtain ⟨c, _, rfl⟩ := hu
      rfl
theorem bldWr_strs : bldWr.Strs where
  meth := fun p w => by show (method 185 24 (.pointer p) "WriteString").run Try.prog w = .ok (52, .pointer p) w; kernel_rfl
  enter := fun args w => by show (callFunc 52 args).run Try.prog w = .ok (.enter 52 args) w; exact enters_of Try.func52 (by kernel_rfl) rfl args w
  write := fun B b l s w h hl hB => (Go.Proofs.Try.bld_WriteString_k B b (Lib.byteCells l) s w h (by simpa [Lib.byteCells] using hl) hB).mono fun e w' ⟨he, h1, h2, h3⟩ => ⟨he, .inr (by simpa [Lib.byteCells, Lib.strCells] using h1), h2, h3⟩
end Go.Proofs.Ytjpcdbopioblaaa
