/-
  PLAIN FUNCTIONS of the number laws: no Go in sight.
-/
import Derived.Test.Qxb6603780aModsPlainDec
namespace Go.Proofs.Qxb6603780aMods
set_option linter.unusedVariables false
set_option linter.unusedSimpArgs false

def nzB (c : Int) : Bool := decide (49 ≤ c ∧ c ≤ 57)
def zrB (c : Int) : Bool := decide (c = 48)
def mnB (c : Int) : Bool := decide (c = 45)

/-- The number automaton's step; -1: done, -2: wrong. -/
def nstep (st : Nat) (c : Int) : Int :=
  match st with
  | 0 => if mnB c then 1 else if zrB c then 2 else if nzB c then 3 else -2
  | 1 => if zrB c then 2 else if nzB c then 3 else -2
  | 2 => if ptB c then 4 else if expB c then 6 else -1
  | 3 => if dig c then 3 else if ptB c then 4 else if expB c then 6 else -1
  | 4 => if dig c then 5 else -2
  | 5 => if dig c then 5 else if expB c then 6 else -1
  | 6 => if sgnB c then 7 else if dig c then 8 else -2
  | 7 => if dig c then 8 else -2
  | 8 => if dig c then 8 else -1
  | _ => -1

theorem nstep_range (st : Nat) (c : Int) : nstep st c = -1 ∨ nstep st c = -2 ∨ 0 ≤ nstep st c ∧ nstep st c ≤ 8 := by
  unfold nstep
  split <;> (repeat' split) <;> simp

/-- The automaton from place i on, where the list 'l' is left. -/
def nrun (fin : Bool) (st i : Nat) : List Int → Nat × Nat
  | [] => (i, if fin && decide (st = 2 ∨ st = 3 ∨ st = 5 ∨ st = 8) then 0 else 1)
  | c :: cs => if nstep st c = -1 then (i, 0) else if nstep st c = -2 then (i, 2) else nrun fin (nstep st c).toNat (i + 1) cs

/-- someDigitsEnd. -/
def sde (zs : List Int) (i : Nat) : Nat × Nat := if i = zs.length then (i, 1) else if dig (zs.getD i 0) then (i + ds zs i, 0) else (i, 2)
def nfin (zs : List Int) (fin : Bool) (a : Nat) : Nat × Nat := if decide (a = zs.length) && !fin then (a, 1) else (a, 0)
def nexp (zs : List Int) (fin : Bool) (a : Nat) : Nat × Nat := if atE zs a then (if (sde zs (sg zs (a + 1))).2 = 0 then nfin zs fin (sde zs (sg zs (a + 1))).1 else sde zs (sg zs (a + 1))) else nfin zs fin a
def nfrac (zs : List Int) (fin : Bool) (a : Nat) : Nat × Nat := if atP zs a then (if (sde zs (a + 1)).2 = 0 then nexp zs fin (sde zs (a + 1)).1 else sde zs (a + 1)) else nexp zs fin a
def nint (zs : List Int) (fin : Bool) (a : Nat) : Nat × Nat :=
  if a = zs.length then (a, 1) else if zrB (zs.getD a 0) then nfrac zs fin (a + 1) else if nzB (zs.getD a 0) then nfrac zs fin (a + ds zs a) else (a, 2)
def a0 (zs : List Int) (p : Nat) : Nat := if mnB (zs.getD p 0) then p + 1 else p
def numEnd (zs : List Int) (p : Nat) (fin : Bool) : Nat × Nat := nint zs fin (a0 zs p)

theorem sde_le (zs : List Int) (i : Nat) (h : i ≤ zs.length) : (sde zs i).1 ≤ zs.length ∧ (sde zs i).2 ≤ 2 := by
  have := ds_le zs i
  unfold sde
  split
  · exact ⟨h, by simp⟩
  · split
    · exact ⟨by simp; omega, by simp⟩
    · exact ⟨h, by simp⟩

end Go.Proofs.Qxb6603780aMods
