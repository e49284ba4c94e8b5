/- What the URL escaping computes, plainly. -/
import Derived.Test.YtjpcdbopioblaaaGreatDoorLay
namespace Go.Proofs.YtjpcdbopioblaaaGreatDoor
open Go.RowKit

def tabInts : DataW Unit → List Int
  | .agg l => l.map fun d => match d with
    | .lit (.int _ n) => n
    | _ => 0
  | _ => []
/-- The library's table, byte by byte. -/
def urlTab : List Int := tabInts Rows.laid_net_url_table
theorem urlTab_len : urlTab.length = 256 := by kernel_rfl
/-- A byte that stays as it is in a query. -/
def keepN (n : Nat) : Bool := bits .and .u8 (urlTab.getD n 0) 32 != 0
def keepB (c : UInt8) : Bool := keepN c.toNat
/-- A hex digit. -/
def hexU (n : Nat) : UInt8 := if n < 10 then UInt8.ofNat (48 + n) else UInt8.ofNat (55 + n)
/-- A byte in the text that both steps make. -/
def enc2 (c : UInt8) : List UInt8 := if keepB c then [c] else [37, hexU (c.toNat / 16), hexU (c.toNat % 16)]
/-- A byte in the text that the first step makes. -/
def enc1 (c : UInt8) : List UInt8 := if c = 32 then [43] else enc2 c

theorem keep_facts : ((List.range 256).all fun n => !keepN n || (n != 37 && n != 43 && n != 32)) = true := by decide +kernel
theorem keepB_ne {c : UInt8} (h : keepB c = true) : c ≠ 37 ∧ c ≠ 43 ∧ c ≠ 32 := by
  have h1 := List.all_eq_true.1 keep_facts c.toNat (by simpa using c.toNat_lt)
  unfold keepB at h
  rw [h] at h1
  simp only [Bool.not_true, Bool.false_or, Bool.and_eq_true, bne_iff_ne] at h1
  exact ⟨fun e => h1.1.1 (by rw [e]; rfl), fun e => h1.1.2 (by rw [e]; rfl), fun e => h1.2 (by rw [e]; rfl)⟩
theorem hexU_facts : ((List.range 16).all fun n => hexU n != 43 && hexU n != 37 && decide ((hexU n).toNat < 128)) = true := by decide +kernel
theorem hexU_ne {n : Nat} (h : n < 16) : hexU n ≠ 43 ∧ hexU n ≠ 37 := by
  have h1 := List.all_eq_true.1 hexU_facts n (by simpa using h)
  simp only [Bool.and_eq_true, bne_iff_ne] at h1
  exact h1.1
theorem keep_sp : keepB 32 = false := by decide +kernel

/-- What replacing each '+' by "%20" gives. -/
def plus20 (l : List UInt8) : List UInt8 := l.flatMap fun c => if c = 43 then [37, 50, 48] else [c]
theorem plus20_enc (c : UInt8) : plus20 (enc1 c) = enc2 c := by
  have hx : c.toNat / 16 < 16 := by have := c.toNat_lt; omega
  have hy : c.toNat % 16 < 16 := Nat.mod_lt _ (by decide)
  unfold enc1
  split
  · rename_i h
    subst h
    decide +kernel
  · unfold enc2
    split
    · rename_i h
      have := keepB_ne h
      simp [plus20, this.2.1]
    · have h1 := hexU_ne hx
      have h2 := hexU_ne hy
      simp [plus20, h1.1, h2.1]
theorem plus20_all (l : List UInt8) : plus20 (l.flatMap enc1) = l.flatMap enc2 := by
  induction l with
  | nil => rfl
  | cons c l ih =>
    rw [List.flatMap_cons, List.flatMap_cons, ← ih, ← plus20_enc c]
    unfold plus20
    rw [List.flatMap_append]
theorem enc2_noplus (l : List UInt8) : (43 : UInt8) ∉ l.flatMap enc2 := by
  intro h
  obtain ⟨c, -, hc⟩ := List.mem_flatMap.1 h
  have hx : c.toNat / 16 < 16 := by have := c.toNat_lt; omega
  have hy : c.toNat % 16 < 16 := Nat.mod_lt _ (by decide)
  unfold enc2 at hc
  split at hc
  · rename_i hk
    simp at hc
    exact (keepB_ne hk).2.1 hc.symm
  · simp at hc
    rcases hc with hc | hc
    · exact (hexU_ne hx).1 hc.symm
    · exact (hexU_ne hy).1 hc.symm
theorem enc_len (c : UInt8) : (enc1 c).length = (if keepB c ∨ c = 32 then 1 else 3) ∧ (enc2 c).length = (if keepB c then 1 else 3) := by
  unfold enc1 enc2
  by_cases h : c = 32
  · subst h; simp [keep_sp]
  · by_cases hk : keepB c = true <;> simp [h, hk]
end Go.Proofs.YtjpcdbopioblaaaGreatDoor
