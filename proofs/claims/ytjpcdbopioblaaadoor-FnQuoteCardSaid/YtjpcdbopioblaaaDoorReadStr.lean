/- The reference's reader of queries: a string's text. -/
import Derived.Test.YtjpcdbopioblaaaDoorReadEsc
import Derived.Test.YtjpcdbopioblaaaDoorReadWord
import Derived.Test.YtjpcdbopioblaaaDoorStrLaws
namespace Go.Proofs.YtjpcdbopioblaaaDoor
open Go.RowKit

/-- The query that stands for a string. -/
def qv (s : ByteArray) : Value := .agg #[.string ⟨#[118, 97, 108]⟩, .string ⟨#[]⟩, .int .i64 4, .int .i64 0, .string s, .slice none 0 0, .slice none 0 0, .slice none 0 0, .slice none 0 0, .slice none 0 0, .slice none 0 0, .slice none 0 0]

set_option maxRecDepth 100000 in
theorem val_c (s : ByteArray) (w : World) :
    Calls Tryd.prog 149 #[.agg #[.int .i64 4, .int .i64 0, .string s, .slice none 0 0, .slice none 0 0, .slice none 0 0]] w fun e w' => e = .returned (qv s) ∧ Below w.heap.size w w' := by
  have HB := Lib.hid (fun o o' => ((Below.refl w.heap.size w).alloc (Nat.le_refl _) o).alloc (by simp) o')
  unfold qv
  go_enter Tryd.func149, Tryd.ntmps149
  go_wp2_with fail
  refine bodyPost_ret (v := .agg #[.string ⟨#[118, 97, 108]⟩, .string ⟨#[]⟩, .int .i64 4, .int .i64 0, .string s, .slice none 0 0, .slice none 0 0, .slice none 0 0, .slice none 0 0, .slice none 0 0, .slice none 0 0, .slice none 0 0]) (by rw [results_cell rfl]; go_simp) rfl ?_
  exact ⟨rfl, HB.out _ _⟩

/-- A query of the call's own in block b. -/
def QB (w : World) (b : Nat) (cs : Array Value) : Prop := w.heap[b]? = some (.cells cs 35 (0, 0))
abbrev q0 : Array Value := #[.string ⟨#[]⟩, .string ⟨#[]⟩, .int .i64 0, .int .i64 0, .string ⟨#[]⟩, .slice none 0 0, .slice none 0 0, .slice none 0 0, .slice none 0 0, .slice none 0 0, .slice none 0 0, .slice none 0 0]
abbrev qT : Array Value := #[.string ⟨#[116, 101, 120, 116]⟩, .string ⟨#[]⟩, .int .i64 0, .int .i64 0, .string ⟨#[]⟩, .slice none 0 0, .slice none 0 0, .slice none 0 0, .slice none 0 0, .slice none 0 0, .slice none 0 0, .slice none 0 0]
theorem QB.cell {w : World} {b : Nat} {cs : Array Value} (h : QB w b cs) (o : Nat) : w.cell? ⟨b, o, none⟩ = cs[o]? := by unfold QB at h; simp [World.cell?, h]
theorem QB.fr {w : World} {b : Nat} {cs : Array Value} (h : QB w b cs) (o : Nat) : w.frozen? ⟨b, o, none⟩ = false := by unfold QB at h; simp [World.frozen?, h]
theorem QB.lt {w : World} {b : Nat} {cs : Array Value} (h : QB w b cs) : b < w.heap.size := lt_of_block h

/-- While a string is read: its place is p. -/
structure TS (w : World) (rb : Nat) (src : ByteArray) (p : Nat) (wr : World) : Prop where
  rd : Rd wr rb src p kStr ⟨#[]⟩ false
  g : w.grownBy wr (some rb)
  res : QB wr w.heap.size q0
  q : QB wr (w.heap.size + 1) qT
  lt : rb < w.heap.size
theorem TS.start {w : World} {rb : Nat} {src : ByteArray} (h : Rd w rb src 1 kStr ⟨#[]⟩ false) : TS w rb src 1 ((w.alloc (.cells q0 35)).alloc (.cells qT 35)) := by
  have hB : Below w.heap.size w ((w.alloc (.cells q0 35)).alloc (.cells qT 35)) := ((Below.refl w.heap.size w).alloc (Nat.le_refl _) _).alloc (by simp) _
  refine ⟨h.kept hB, gb_below (World.grownBy.refl w _) hB, ?_, ?_, h.lt⟩
  · unfold QB
    rw [heap_alloc_old _ _ (by simp)]
    exact heap_alloc_new w _
  · have := heap_alloc_new (w.alloc (.cells q0 35)) (.cells qT 35)
    simpa [QB] using this
theorem TS.step {w : World} {rb : Nat} {src : ByteArray} {p p' : Nat} {wr w' : World} (h : TS w rb src p wr) (hg : wr.grownBy w' (some rb)) (hr : Rd w' rb src p' kStr ⟨#[]⟩ false) : TS w rb src p' w' :=
  ⟨hr, gb_trans h.g hg, (hg.block _ h.res.lt (by have := h.lt; intro e; injection e; omega)).trans h.res, (hg.block _ h.q.lt (by have := h.lt; intro e; injection e; omega)).trans h.q, h.lt⟩
theorem TS.drewN {w : World} {rb : Nat} {src : ByteArray} {p : Nat} {wr : World} (h : TS w rb src p wr) (n : Nat) : TS w rb src p (wr.drewN n) := h.step (gb_drewN (World.grownBy.refl wr _) n) h.rd
theorem TS.put {w : World} {rb : Nat} {src : ByteArray} {p : Nat} {wr : World} (h : TS w rb src p wr) (p' : Nat) : TS w rb src p' (wr.setCell ⟨rb, 1, none⟩ (.int .i64 p')) := h.step (gb_set (World.grownBy.refl wr _) _ _) (h.rd.set1 _)

theorem ba_zero (s : ByteArray) : s.extract 0 0 = ⟨#[]⟩ := by
  apply ByteArray.ext
  apply Array.toList_inj.1
  simp
theorem posE_ge (s : ByteArray) : ∀ i, i ≤ s.size → i < posE s i
  | 0, _ => by rw [posE_zero]; omega
  | i + 1, h => by have h1 := posE_ge s i (by omega); have h2 := encB_pos s[i]; rw [posE_succ (by omega)]; omega
theorem enc_esc {c : UInt8} (h : ¬ plainB c) : ∃ l : List UInt8, encB c = 92 :: l ∧ ∃ h : 0 < l.length, l[0].toNat ≠ 40 := by
  rcases encB_cases c h with ⟨_, e⟩ | ⟨_, e⟩ | ⟨_, e⟩ | ⟨_, e⟩ | ⟨_, e⟩ | ⟨_, e⟩ | ⟨_, e⟩ | ⟨_, e⟩ <;> exact ⟨_, e, by simp, by simp⟩
theorem QB.later {w : World} {b : Nat} {cs : Array Value} (h : QB w b cs) (A B : Obj) : QB ((w.alloc A).alloc B) b cs := ((((Below.refl w.heap.size w).alloc (Nat.le_refl _) A).alloc (by simp) B).block b h.lt).trans h
theorem QB.set {w : World} {b : Nat} {cs : Array Value} (h : QB w b cs) (i : Nat) (v : Value) : QB (w.setCell ⟨b, i, none⟩ v) b (cs.setIfInBounds i v) := by
  have hlt := h.lt
  unfold QB at h ⊢
  have h' : w.heap[b] = .cells cs 35 (0, 0) := by simpa [Array.getElem?_eq_getElem hlt] using h
  show (w.heap.modify b _)[b]? = _
  rw [Array.getElem?_eq_getElem (by simpa using hlt), Array.getElem_modify_self, h']
  rfl
/-- At the end. -/
structure TE (w : World) (rb : Nat) (src : ByteArray) (wr : World) : Prop where
  rd : Rd wr rb src src.size kEnd ⟨#[]⟩ false
  g : w.grownBy wr (some rb)
  res : QB wr w.heap.size q0
  lt : rb < w.heap.size
theorem TE.kept {w : World} {rb : Nat} {src : ByteArray} {wr w' : World} (h : TE w rb src wr) (hb : Below wr.heap.size wr w') : TE w rb src w' :=
  ⟨h.rd.kept hb, gb_below h.g hb, (hb.block _ h.res.lt).trans h.res, h.lt⟩
theorem TE.fin {w : World} {rb : Nat} {src : ByteArray} {wr wx : World} (h : TE w rb src wr) (hg : wr.grownBy wx (some w.heap.size)) : Rd wx rb src src.size kEnd ⟨#[]⟩ false ∧ w.grownBy wx (some rb) :=
  ⟨(hg.block rb h.rd.lt (by have := h.lt; intro e; injection e; omega)).trans h.rd, ⟨hg.os.trans h.g.os, hg.tape.trans h.g.tape, hg.output.trans h.g.output, Nat.le_trans h.g.size hg.size, fun k hk hn => (hg.block k (Nat.lt_of_lt_of_le hk h.g.size) (by intro e; injection e; omega)).trans (h.g.block k hk hn)⟩⟩
/-- Behind the string. -/
structure TF (w : World) (rb : Nat) (src : ByteArray) (wr : World) : Prop where
  rd : Rd wr rb src src.size kEnd ⟨#[]⟩ false
  g : w.grownBy wr (some rb)
  res : QB wr w.heap.size q0
  q : QB wr (w.heap.size + 1) qT
  lt : rb < w.heap.size
theorem TS.fin {w : World} {rb : Nat} {src : ByteArray} {p : Nat} {wr w' : World} (h : TS w rb src p wr) (hg : wr.grownBy w' (some rb)) (hr : Rd w' rb src src.size kEnd ⟨#[]⟩ false) : TF w rb src w' :=
  ⟨hr, gb_trans h.g hg, (hg.block _ h.res.lt (by have := h.lt; intro e; injection e; omega)).trans h.res, (hg.block _ h.q.lt (by have := h.lt; intro e; injection e; omega)).trans h.q, h.lt⟩
theorem TF.toE {w : World} {rb : Nat} {src : ByteArray} {wr : World} (h : TF w rb src wr) (A B : Obj) (v : Value) : TE w rb src (((wr.alloc A).alloc B).setCell ⟨w.heap.size + 1, 9, none⟩ v).drew := by
  have hb : Below wr.heap.size wr ((wr.alloc A).alloc B) := ((Below.refl wr.heap.size wr).alloc (Nat.le_refl _) A).alloc (by simp) B
  have ho : ∀ k, k ≠ w.heap.size + 1 → (((wr.alloc A).alloc B).setCell ⟨w.heap.size + 1, 9, none⟩ v).heap[k]? = ((wr.alloc A).alloc B).heap[k]? := fun k hk => Below.heap_setCell _ ⟨w.heap.size + 1, 9, none⟩ v k hk
  have hg := gb_below h.g hb
  refine ⟨(ho rb (by have := h.lt; omega)).trans (h.rd.kept hb), ⟨hg.os, hg.tape, hg.output, by simpa [World.setCell] using hg.size, fun k hk hn => (ho k (by omega)).trans (hg.block k hk hn)⟩, (ho _ (by omega)).trans ((hb.block _ h.res.lt).trans h.res), h.lt⟩
def ReadPost (s src : ByteArray) (rb : Nat) (w : World) (e : Ending) (w' : World) : Prop := e = .returned (qv s) ∧ Rd w' rb src src.size kEnd ⟨#[]⟩ false ∧ w.grownBy w' (some rb)

set_option maxRecDepth 100000 in
set_option maxHeartbeats 3200000 in
theorem text_read (rb : Nat) (s src : ByteArray) (w : World) (h : Rd w rb src 1 kStr ⟨#[]⟩ false) (hE : IsEnc s src) (hs : src.size ≤ 140737488355328) :
    Calls Tryd.prog 129 #[.pointer (some ⟨rb, 0, none⟩), .string ⟨#[]⟩] w (ReadPost s src rb w) := by
  have H := Lib.hid (TS.start h)
  have HE := Lib.hid hE
  clear h hE
  unfold ReadPost
  go_enter Tryd.func129, Tryd.ntmps129
  go_wp2_with fail
  go_loopg [6] (s.size) (fun gk s6 wr => ∃ i : Nat, s6 = .string (s.extract 0 i) ∧ i ≤ s.size ∧ gk = s.size - i ∧ Hid (TS w rb src (posE s i) wr))
  case atStart => exact ⟨0, by rw [ba_zero], Nat.zero_le _, rfl, by rw [posE_zero]; exact H⟩
  case round =>
    obtain ⟨i, rfl, hi, rfl, HR0⟩ := hrel
    clear H
    have c0 := HR0.out.rd.c0
    have c1 := HR0.out.rd.c1
    have c4 := HR0.out.rd.c4
    by_cases hlt : i < s.size
    · have hpos := posE_le HE.out hlt
      have HP := Lib.hid (posE_succ hlt)
      by_cases hp : plainB s[i]
      · have hel := encB_plain hp
        have HGE := Lib.hid (posE_ge s i (by omega))
        obtain ⟨x0, y1⟩ := HE.out.at hlt 0 (encB_pos _)
        simp only [Nat.add_zero, hel] at x0 y1
        have x1 : src[posE s i]'(by omega) = s[i] := y1
        have HP1 : Hid (posE s (i + 1) = posE s i + 1) := Lib.hid (by rw [HP.out, hel]; rfl)
        have HS : Hid (s.extract 0 i ++ ⟨#[src[posE s i]'(by omega)]⟩ = s.extract 0 (i + 1)) := Lib.hid (by rw [x1]; exact ba_snoc s i hlt)
        obtain ⟨p1, p2, p3, p4⟩ := hp
        have hx : (src[posE s i]'(by omega)).toNat = s[i].toNat := by rw [x1]
        clear HP x1 y1
        generalize posE s i = m at *
        have hm : (m : Int) < (src.size : Int) := by omega
        have q0 : ((src[m].toNat : Int) != 34) = true := by rw [hx]; simp; omega
        have q1 : ¬ ((src[m].toNat : Int) < 32) := by rw [hx]; omega
        have q2 : ((src[m].toNat : Int) != 92) = true := by rw [hx]; simp; omega
        have hm0 : decide ((m : Int) < (src.size : Int)) = true := by simp; omega
        have HX := Lib.hid (ba_one src m x0)
        clear p1 p2 p3 p4 hx hpos hel
        go_wp2_with fail
        go_quiet (fail)
        have HR1 : Hid (TS w rb src m (wr.drewN nq)) := Lib.hid (HR0.out.drewN nq)
        clear c0 c1 c4 HR0
        generalize wr.drewN nq = w1 at *
        have c0 := HR1.out.rd.c0
        have c1 := HR1.out.rd.c1
        go_wp2_with fail
        go_quiet (fail)
        have HR2 : Hid (TS w rb src m (w1.drewN nq)) := Lib.hid (HR1.out.drewN nq)
        clear c0 c1 HR1
        generalize w1.drewN nq = w2 at *
        have c1 := HR2.out.rd.c1
        have f1 := HR2.out.rd.fr 1
        have HR3 : Hid (TS w rb src (m + 1) (w2.setCell ⟨rb, 1, none⟩ (.int .i64 ((m : Int) + 1)))) := Lib.hid (HR2.out.put (m + 1))
        have d0 := HR3.out.rd.c0
        have d1 : World.cell? _ _ = some (.int .i64 ((m : Int) + 1)) := HR3.out.rd.c1
        have hx : src.extract m (m + 1) = ⟨#[src[m]]⟩ := HX.out
        have hcat : ¬ (9223372036854775807 < i + 1) := by have := HGE.out; omega
        have hw : IntKind.i64.wrap (m : Int) = (m : Int) := IntWalk.i64_in _ (by omega)
        have hz : ((m : Int) + 1).toNat = m + 1 := by omega
        have hz1 : (m : Int) ≤ (m : Int) + 1 := by omega
        have hz2 : (m : Int) + 1 ≤ (src.size : Int) := by omega
        have hz3 : (0 : Int) ≤ (m : Int) + 1 := by omega
        go_wp2_with fail
        go_wp2_with fail
        go_quiet (fail)
        have HR4 : Hid (TS w rb src (m + 1) ((w2.setCell ⟨rb, 1, none⟩ (.int .i64 ((m : Int) + 1))).drewN nq)) := Lib.hid (HR3.out.drewN nq)
        clear c1 f1 d0 d1 HR2 HR3
        go_wp2_with fail
        go_roundg (s.size - (i + 1))
        case measure => omega
        case rel => exact ⟨i + 1, by rw [HS.out], by omega, rfl, by rw [HP1.out]; exact HR4⟩
      · have HPL := Lib.hid hp
        obtain ⟨l, hel, hl0, hl1⟩ := enc_esc hp
        obtain ⟨x0, y1⟩ := HE.out.at hlt 0 (encB_pos _)
        obtain ⟨z0, z1⟩ := HE.out.at hlt 1 (by rw [hel]; simp; omega)
        simp only [Nat.add_zero, hel] at x0 y1 z1
        have x1 : (src[posE s i]'(by omega)).toNat = 92 := by rw [show src[posE s i]'(by omega) = 92 from y1]; rfl
        have z2 : (src[posE s i + 1]'(by omega)).toNat ≠ 40 := by rw [show src[posE s i + 1]'(by omega) = l[0] from z1]; exact hl1
        have HESC : Hid (∀ j (hj : j + 1 < (encB s[i]).length), ∃ hlt : posE s i + 1 + j < src.size, src[posE s i + 1 + j] = (encB s[i])[j + 1]) := Lib.hid fun j hj => by
          obtain ⟨a, b⟩ := HE.out.at hlt (j + 1) hj
          have e2 : posE s i + 1 + j = posE s i + (j + 1) := by omega
          refine ⟨by omega, ?_⟩
          simp only [e2]
          exact b
        have HNX : Hid (posE s (i + 1) = posE s i + 1 + ((encB s[i]).length - 1)) := Lib.hid (by rw [HP.out]; have := encB_pos s[i]; omega)
        clear hpos hp y1 z1 hel hl1 HP
        clear hl0 l
        have HSN := Lib.hid (ba_snoc s i hlt)
        have HGE := Lib.hid (posE_ge s i (by omega))
        generalize posE s i = m at *
        have hm : (m : Int) < (src.size : Int) := by omega
        have hm1 : (m : Int) + 1 < (src.size : Int) := by omega
        have q0 : ((src[m].toNat : Int) != 34) = true := by rw [x1]; rfl
        have q1 : ¬ ((src[m].toNat : Int) < 32) := by rw [x1]; omega
        have q2 : ((src[m].toNat : Int) != 92) = false := by rw [x1]; rfl
        have q3 : ((src[m + 1].toNat : Int) == 40) = false := by simp; omega
        have hm0 : decide ((m : Int) < (src.size : Int)) = true := by simp; omega
        have hm2 : decide ((m : Int) + 1 < (src.size : Int)) = true := by simp; omega
        clear z2
        go_wp2_with fail
        go_quiet (fail)
        have HR1 : Hid (TS w rb src m (wr.drewN nq)) := Lib.hid (HR0.out.drewN nq)
        clear c0 c1 c4 HR0
        generalize wr.drewN nq = w1 at *
        have c0 := HR1.out.rd.c0
        have c1 := HR1.out.rd.c1
        go_wp2_with fail
        go_quiet (fail)
        have HR2 : Hid (TS w rb src m (w1.drewN nq)) := Lib.hid (HR1.out.drewN nq)
        clear c0 c1 HR1
        generalize w1.drewN nq = w2 at *
        have c1 := HR2.out.rd.c1
        have f1 := HR2.out.rd.fr 1
        have HR3 : Hid (TS w rb src (m + 1) (w2.setCell ⟨rb, 1, none⟩ (.int .i64 ((m : Int) + 1)))) := Lib.hid (HR2.out.put (m + 1))
        have d0 := HR3.out.rd.c0
        have d1 : World.cell? _ _ = some (.int .i64 ((m : Int) + 1)) := HR3.out.rd.c1
        have hz : ((m : Int) + 1).toNat = m + 1 := by omega
        have hz3 : (0 : Int) ≤ (m : Int) + 1 := by omega
        go_wp2_with fail
        go_quiet (fail)
        have HR4 : Hid (TS w rb src (m + 1) ((w2.setCell ⟨rb, 1, none⟩ (.int .i64 ((m : Int) + 1))).drewN nq)) := Lib.hid (HR3.out.drewN nq)
        clear c1 f1 d0 d1 HR2 HR3
        go_wp2_with fail
        refine (escaped_any rb src kStr ⟨#[]⟩ (m + 1) s[i] _ HR4.out.rd HPL.out HESC.out hs).mono ?_
        rintro e w5 ⟨rfl, hr5, hg5⟩
        have HR5 := Lib.hid (HR4.out.step hg5 hr5)
        have hcat : ¬ (9223372036854775807 < i + 1) := by have := HGE.out; omega
        clear hr5 hg5 HR4
        go_wp2_with fail
        go_roundg (s.size - (i + 1))
        case measure => omega
        case rel => exact ⟨i + 1, by rw [HSN.out], by omega, rfl, by rw [HNX.out]; exact HR5⟩
    · obtain rfl : i = s.size := by omega
      obtain ⟨x0, x1⟩ := HE.out.last
      have HSZ := Lib.hid HE.out.size
      have hx1 : src[posE s s.size].toNat = 34 := by rw [x1]; rfl
      clear x1 hlt hi
      generalize posE s s.size = m at *
      have hm : (m : Int) < (src.size : Int) := by omega
      have q0 : ((src[m].toNat : Int) != 34) = false := by rw [hx1]; rfl
      have hm0 : decide ((m : Int) < (src.size : Int)) = true := by simp; omega
      have hm3 : ¬ ((src.size : Int) ≤ (m : Int)) := by omega
      have hm4 : decide ((src.size : Int) ≤ (m : Int)) = false := by simp; omega
      go_wp2_with fail
      go_quiet (fail)
      have HR1 : Hid (TS w rb src m (wr.drewN nq)) := Lib.hid (HR0.out.drewN nq)
      clear c0 c1 c4 HR0
      generalize wr.drewN nq = w1 at *
      have c0 := HR1.out.rd.c0
      have c1 := HR1.out.rd.c1
      go_wp2_with fail
      go_quiet (fail)
      have HR2 : Hid (TS w rb src m (w1.drewN nq)) := Lib.hid (HR1.out.drewN nq)
      clear c0 c1 HR1
      generalize w1.drewN nq = w2 at *
      have c1 := HR2.out.rd.c1
      have f1 := HR2.out.rd.fr 1
      have HR3 : Hid (TS w rb src (m + 1) (w2.setCell ⟨rb, 1, none⟩ (.int .i64 ((m : Int) + 1)))) := Lib.hid (HR2.out.put (m + 1))
      have d0 := HR3.out.rd.c0
      have d1 : World.cell? _ _ = some (.int .i64 ((m : Int) + 1)) := HR3.out.rd.c1
      have HRD : Hid (Rd (w2.setCell ⟨rb, 1, none⟩ (.int .i64 ((m : Int) + 1))) rb src src.size kStr ⟨#[]⟩ false) := Lib.hid (by have h := HR3.out.rd; rw [← HSZ.out] at h; exact h)
      go_wp2_with fail
      refine (move_end rb src kStr ⟨#[]⟩ false _ HRD.out hs).mono ?_
      rintro e w5 ⟨rfl, hr5, hg5⟩
      have HF := Lib.hid (HR3.out.fin hg5 hr5)
      clear hr5 hg5 c1 f1 d0 d1 HR2 HR3 HRD hm q0 hm0 hm3 hm4 hx1 x0
      have k9 : w5.cell? ⟨w.heap.size + 1, 9, none⟩ = some (.slice none 0 0) := HF.out.q.cell 9
      have k9a : ∀ A B, ((w5.alloc A).alloc B).cell? ⟨w.heap.size + 1, 9, none⟩ = some (.slice none 0 0) := fun A B => (HF.out.q.later A B).cell 9
      have g9a : ∀ A B, ((w5.alloc A).alloc B).frozen? ⟨w.heap.size + 1, 9, none⟩ = false := fun A B => (HF.out.q.later A B).fr 9
      have k8a : ∀ A B v, (((w5.alloc A).alloc B).setCell ⟨w.heap.size + 1, 9, none⟩ v).cell? ⟨w.heap.size + 1, 8, none⟩ = some (.slice none 0 0) := fun A B v => ((HF.out.q.later A B).set 9 v).cell 8
      have hcap : ¬ (281474976710656 < Builtin.nextslicecap 1 0 * Tryd.t9.bytes) := by decide +kernel
      have HTE := Lib.hid fun A B v => HF.out.toE A B v
      clear HF
      go_wp2_with fail
      refine (str_c s _).mono ?_
      rintro e w7 ⟨rfl, hb7⟩
      have HE7 := Lib.hid ((HTE.out _ _ _).kept hb7)
      clear hb7 HTE k9 k9a g9a k8a hcap
      go_wp2_with fail
      refine (val_c s _).mono ?_
      rintro e w8 ⟨rfl, hb8⟩
      have HE8 := Lib.hid (HE7.out.kept hb8)
      clear hb8 HE7
      have rc : ∀ o, w8.cell? ⟨w.heap.size, o, none⟩ = (#[.string ⟨#[]⟩, .string ⟨#[]⟩, .int .i64 0, .int .i64 0, .string ⟨#[]⟩, .slice none 0 0, .slice none 0 0, .slice none 0 0, .slice none 0 0, .slice none 0 0, .slice none 0 0, .slice none 0 0] : Array Value)[o]? := HE8.out.res.cell
      have rf := HE8.out.res.fr
      unfold qv
      go_wp2_with fail
      refine bodyPost_ret (v := .agg #[.string ⟨#[118, 97, 108]⟩, .string ⟨#[]⟩, .int .i64 4, .int .i64 0, .string s, .slice none 0 0, .slice none 0 0, .slice none 0 0, .slice none 0 0, .slice none 0 0, .slice none 0 0, .slice none 0 0]) (by rw [results_cell rfl]; go_simp) rfl ?_
      refine ⟨rfl, ?_⟩
      with_reducible refine HE8.out.fin ?_
      repeat' (with_reducible first | exact World.grownBy.refl _ _ | refine gb_set ?_ _ _)
end Go.Proofs.YtjpcdbopioblaaaDoor
