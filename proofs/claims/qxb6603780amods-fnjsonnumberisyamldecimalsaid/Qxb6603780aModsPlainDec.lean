/-
  PLAIN FUNCTIONS of the decimal automaton: no Go in sight.
-/
namespace Go.Proofs.Qxb6603780aMods

/-- A decimal digit. -/
def dig (c : Int) : Bool := decide (48 ≤ c ∧ c ≤ 57)
def sgnB (c : Int) : Bool := decide (c = 43 ∨ c = 45)
def expB (c : Int) : Bool := decide (c = 101 ∨ c = 69)
def ptB (c : Int) : Bool := decide (c = 46)

/-- The decimal automaton's step. -/
def dstep (st : Nat) (c : Int) : Int :=
  match st with
  | 0 => if sgnB c then 1 else if dig c then 2 else if ptB c then 5 else -1
  | 1 => if dig c then 2 else if ptB c then 5 else -1
  | 2 => if dig c then 2 else if ptB c then 3 else if expB c then 6 else -1
  | 3 => if dig c then 4 else if expB c then 6 else -1
  | 4 => if dig c then 4 else if expB c then 6 else -1
  | 5 => if dig c then 4 else -1
  | 6 => if sgnB c then 7 else if dig c then 8 else -1
  | 7 => if dig c then 8 else -1
  | 8 => if dig c then 8 else -1
  | _ => -1

theorem dstep_range (st : Nat) (c : Int) : dstep st c = -1 ∨ 0 ≤ dstep st c ∧ dstep st c ≤ 8 := by
  unfold dstep
  split <;> (repeat' split) <;> simp

/-- The classes of a byte that the automata tell apart. -/
def Cls (c : Int) (d s e p : Bool) : Prop := dig c = d ∧ sgnB c = s ∧ expB c = e ∧ ptB c = p
theorem cls_of (c : Int) : c = 43 ∨ c = 45 ∨ c = 46 ∨ c = 101 ∨ c = 69 ∨ (48 ≤ c ∧ c ≤ 57) ∨ (c < 48 ∧ c ≠ 43 ∧ c ≠ 45 ∧ c ≠ 46) ∨ (57 < c ∧ c ≠ 101 ∧ c ≠ 69) := by omega
theorem cls_43 : Cls 43 false true false false := by simp [Cls, dig, sgnB, expB, ptB]
theorem cls_45 : Cls 45 false true false false := by simp [Cls, dig, sgnB, expB, ptB]
theorem cls_46 : Cls 46 false false false true := by simp [Cls, dig, sgnB, expB, ptB]
theorem cls_101 : Cls 101 false false true false := by simp [Cls, dig, sgnB, expB, ptB]
theorem cls_69 : Cls 69 false false true false := by simp [Cls, dig, sgnB, expB, ptB]
theorem cls_dig {c : Int} (h : 48 ≤ c ∧ c ≤ 57) : Cls c true false false false := by
  simp only [Cls, dig, sgnB, expB, ptB]
  exact ⟨decide_eq_true h, decide_eq_false (by omega), decide_eq_false (by omega), decide_eq_false (by omega)⟩
theorem cls_low {c : Int} (h : c < 48 ∧ c ≠ 43 ∧ c ≠ 45 ∧ c ≠ 46) : Cls c false false false false := by
  simp only [Cls, dig, sgnB, expB, ptB]
  exact ⟨decide_eq_false (by omega), decide_eq_false (by omega), decide_eq_false (by omega), decide_eq_false (by omega)⟩
theorem cls_high {c : Int} (h : 57 < c ∧ c ≠ 101 ∧ c ≠ 69) : Cls c false false false false := by
  simp only [Cls, dig, sgnB, expB, ptB]
  exact ⟨decide_eq_false (by omega), decide_eq_false (by omega), decide_eq_false (by omega), decide_eq_false (by omega)⟩

/-- The decimal automaton on a list. -/
def drun (st : Nat) : List Int → Bool
  | [] => decide (st = 2 ∨ st = 3 ∨ st = 4 ∨ st = 8)
  | c :: cs => if dstep st c < 0 then false else drun (dstep st c).toNat cs

/-- How many digits open a list. -/
def cd : List Int → Nat
  | [] => 0
  | c :: cs => if dig c then cd cs + 1 else 0

theorem cd_le (l : List Int) : cd l ≤ l.length := by
  induction l with
  | nil => simp [cd]
  | cons c cs ih => simp only [cd]; split <;> simp [ih]

theorem cd_hit (l : List Int) (k : Nat) (h : k < cd l) : dig (l.getD k 0) = true := by
  induction l generalizing k with
  | nil => simp [cd] at h
  | cons c cs ih =>
    simp only [cd] at h
    split at h
    · rename_i e
      cases k with
      | zero => simpa using e
      | succ k => simpa using ih k (by omega)
    · omega

theorem cd_stop (l : List Int) (h : cd l < l.length) : dig (l.getD (cd l) 0) = false := by
  induction l with
  | nil => simp at h
  | cons c cs ih =>
    simp only [cd] at h ⊢
    split at h
    · rename_i e
      rw [if_pos e]
      simpa using ih (by simpa using h)
    · rename_i e
      rw [if_neg e]
      simpa using e

/-- Is there a sign | an e | a point at place i? -/
def atS (zs : List Int) (i : Nat) : Bool := decide (i < zs.length) && sgnB (zs.getD i 0)
def atE (zs : List Int) (i : Nat) : Bool := decide (i < zs.length) && expB (zs.getD i 0)
def atP (zs : List Int) (i : Nat) : Bool := decide (i < zs.length) && ptB (zs.getD i 0)
/-- The place behind a sign or none. -/
def sg (zs : List Int) (i : Nat) : Nat := if atS zs i then i + 1 else i
/-- How many digits from place i on. -/
def ds (zs : List Int) (i : Nat) : Nat := cd (zs.drop i)
/-- The place behind the first digits. -/
def i2 (zs : List Int) : Nat := sg zs 0 + ds zs (sg zs 0)
/-- How many digits the mantissa has, and the place behind it. -/
def dgs (zs : List Int) : Nat := if atP zs (i2 zs) then ds zs (sg zs 0) + ds zs (i2 zs + 1) else ds zs (sg zs 0)
def i3 (zs : List Int) : Nat := if atP zs (i2 zs) then i2 zs + (1 + ds zs (i2 zs + 1)) else i2 zs
/-- The place where the exponent's digits begin. -/
def i4 (zs : List Int) : Nat := sg zs (i3 zs + 1)
def isDec (zs : List Int) : Bool :=
  if dgs zs = 0 then false
  else if atE zs (i3 zs) then (if ds zs (i4 zs) = 0 then false else decide (i4 zs + ds zs (i4 zs) = zs.length))
  else decide (i3 zs = zs.length)

theorem ds_le (zs : List Int) (i : Nat) : ds zs i ≤ zs.length - i := by
  have := cd_le (zs.drop i)
  simpa [ds] using this
theorem atS_lt {zs : List Int} {i : Nat} (h : atS zs i = true) : i < zs.length := by
  simp [atS] at h; exact h.1
theorem atE_lt {zs : List Int} {i : Nat} (h : atE zs i = true) : i < zs.length := by
  simp [atE] at h; exact h.1
theorem atP_lt {zs : List Int} {i : Nat} (h : atP zs i = true) : i < zs.length := by
  simp [atP] at h; exact h.1
theorem sg_le (zs : List Int) (i : Nat) (h : i ≤ zs.length) : sg zs i ≤ zs.length := by
  unfold sg; split
  · rename_i e; have := atS_lt e; omega
  · exact h
theorem i2_le (zs : List Int) : i2 zs ≤ zs.length := by
  have := ds_le zs (sg zs 0); have := sg_le zs 0 (Nat.zero_le _); unfold i2; omega
theorem i3_le (zs : List Int) : i3 zs ≤ zs.length := by
  unfold i3; split
  · rename_i e; have := atP_lt e; have := ds_le zs (i2 zs + 1); omega
  · exact i2_le zs

theorem sgnB_eq (c : Int) : (c == 43 || c == 45) = sgnB c := by unfold sgnB; rw [Bool.eq_iff_iff]; simp
theorem expB_eq (c : Int) : (c == 101 || c == 69) = expB c := by unfold expB; rw [Bool.eq_iff_iff]; simp
theorem ptB_eq (c : Int) : (c == 46) = ptB c := by unfold ptB; rw [Bool.eq_iff_iff]; simp
theorem sgnB_43 {c : Int} (h : c = 43) : true = sgnB c := by subst h; rfl
theorem expB_101 {c : Int} (h : c = 101) : true = expB c := by subst h; rfl

end Go.Proofs.Qxb6603780aMods
