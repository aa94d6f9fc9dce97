/-
  THE PLAIN LAW: numEnd is what the number automaton says. No Go in sight.
-/
import Derived.Test.Qxb6603780aModsPlainNum
import Derived.Test.Qxb6603780aModsLawDec
namespace Go.Proofs.Qxb6603780aMods
set_option linter.unusedVariables false
set_option linter.unusedSimpArgs false

/-- At least one digit at place i, where the list l is left; then on. -/
def sD (k : Nat → List Int → Nat × Nat) (i : Nat) : List Int → Nat × Nat
  | [] => (i, 1)
  | c :: cs => if dig c then k (i + cd (c :: cs)) ((c :: cs).drop (cd (c :: cs))) else (i, 2)
def fF (fin : Bool) (i : Nat) (l : List Int) : Nat × Nat := (i, if l.isEmpty && !fin then 1 else 0)
/-- Behind the e. -/
def xS (fin : Bool) (i : Nat) : List Int → Nat × Nat
  | [] => (i, 1)
  | c :: cs => if sgnB c then sD (fF fin) (i + 1) cs else sD (fF fin) i (c :: cs)
def xE (fin : Bool) (i : Nat) : List Int → Nat × Nat
  | [] => fF fin i []
  | c :: cs => if expB c then xS fin (i + 1) cs else (i, 0)
def xF (fin : Bool) (i : Nat) : List Int → Nat × Nat
  | [] => fF fin i []
  | c :: cs => if ptB c then sD (xE fin) (i + 1) cs else if expB c then xS fin (i + 1) cs else (i, 0)

theorem nrun8 (fin : Bool) (i : Nat) (l : List Int) : nrun fin 8 i l = fF fin (i + cd l) (l.drop (cd l)) := by
  induction l generalizing i with
  | nil => cases fin <;> rfl
  | cons c cs ih =>
    cases h : dig c
    · simp [nrun, nstep, cd, h, fF]
    · simp [nrun, nstep, cd, h, ih, Nat.add_assoc, Nat.add_comm 1]
theorem nrun7 (fin : Bool) (i : Nat) (l : List Int) : nrun fin 7 i l = sD (fF fin) i l := by
  cases l with
  | nil => cases fin <;> rfl
  | cons c cs =>
    cases h : dig c
    · simp [nrun, nstep, sD, h]
    · simp [nrun, nstep, sD, cd, h, nrun8, Nat.add_assoc, Nat.add_comm 1]
theorem nrun6 (fin : Bool) (i : Nat) (l : List Int) : nrun fin 6 i l = xS fin i l := by
  cases l with
  | nil => cases fin <;> rfl
  | cons c cs =>
    cases hs : sgnB c
    · cases h : dig c
      · simp [nrun, nstep, xS, sD, h, hs]
      · simp [nrun, nstep, xS, sD, cd, h, hs, nrun8, Nat.add_assoc, Nat.add_comm 1]
    · simp [nrun, nstep, xS, hs, nrun7]
theorem nrun5 (fin : Bool) (i : Nat) (l : List Int) : nrun fin 5 i l = xE fin (i + cd l) (l.drop (cd l)) := by
  induction l generalizing i with
  | nil => cases fin <;> rfl
  | cons c cs ih =>
    cases h : dig c
    · cases he : expB c
      · simp [nrun, nstep, cd, h, he, xE]
      · simp [nrun, nstep, cd, h, he, xE, nrun6]
    · simp [nrun, nstep, cd, h, ih, Nat.add_assoc, Nat.add_comm 1]
theorem nrun4 (fin : Bool) (i : Nat) (l : List Int) : nrun fin 4 i l = sD (xE fin) i l := by
  cases l with
  | nil => cases fin <;> rfl
  | cons c cs =>
    cases h : dig c
    · simp [nrun, nstep, sD, h]
    · simp [nrun, nstep, sD, cd, h, nrun5, Nat.add_assoc, Nat.add_comm 1]
theorem nrun2 (fin : Bool) (i : Nat) (l : List Int) : nrun fin 2 i l = xF fin i l := by
  cases l with
  | nil => cases fin <;> rfl
  | cons c cs =>
    cases hp : ptB c
    · cases he : expB c
      · simp [nrun, nstep, hp, he, xF]
      · simp [nrun, nstep, hp, he, xF, nrun6]
    · simp [nrun, nstep, hp, xF, nrun4]
theorem nrun3 (fin : Bool) (i : Nat) (l : List Int) : nrun fin 3 i l = xF fin (i + cd l) (l.drop (cd l)) := by
  induction l generalizing i with
  | nil => cases fin <;> rfl
  | cons c cs ih =>
    cases h : dig c
    · cases hp : ptB c
      · cases he : expB c
        · simp [nrun, nstep, cd, h, hp, he, xF]
        · simp [nrun, nstep, cd, h, hp, he, xF, nrun6]
      · simp [nrun, nstep, cd, h, hp, xF, nrun4]
    · simp [nrun, nstep, cd, h, ih, Nat.add_assoc, Nat.add_comm 1]

theorem drop_at (zs : List Int) (i : Nat) (h : i < zs.length) : zs.drop i = zs.getD i 0 :: zs.drop (i + 1) := by
  rw [List.drop_eq_getElem_cons h]
  simp [List.getD_eq_getElem?_getD, List.getElem?_eq_getElem h]

theorem nfin_law (zs : List Int) (fin : Bool) (a : Nat) (h : a ≤ zs.length) : nfin zs fin a = fF fin a (zs.drop a) := by
  unfold nfin fF
  rw [len_iff zs a h]
  cases (zs.drop a).isEmpty <;> cases fin <;> rfl

/-- someDigitsEnd, then on. -/
theorem sde_law (zs : List Int) (k : Nat → List Int → Nat × Nat) (f : Nat → Nat × Nat) (hk : ∀ a, a ≤ zs.length → f a = k a (zs.drop a)) (i : Nat) (h : i ≤ zs.length) :
    (if (sde zs i).2 = 0 then f (sde zs i).1 else sde zs i) = sD k i (zs.drop i) := by
  by_cases e : i = zs.length
  · have : sde zs i = (i, 1) := by unfold sde; rw [if_pos e]
    rw [this, List.drop_eq_nil_of_le (by omega)]
    rfl
  · rw [drop_at zs i (by omega)]
    unfold sde
    rw [if_neg e]
    cases hd : dig (zs.getD i 0)
    · simp only [sD, hd]
      rfl
    · simp only [sD, hd, if_true]
      rw [← drop_at zs i (by omega)]
      have := ds_le zs i
      rw [hk _ (by omega)]
      show k (i + ds zs i) _ = k (i + cd (zs.drop i)) _
      rw [List.drop_drop]
      rfl

theorem nexp_law (zs : List Int) (fin : Bool) (a : Nat) (h : a ≤ zs.length) : nexp zs fin a = xE fin a (zs.drop a) := by
  unfold nexp
  by_cases e : a < zs.length
  · rw [drop_at zs a e]
    have hat : atE zs a = expB (zs.getD a 0) := by simp [atE, e]
    rw [hat]
    cases he : expB (zs.getD a 0)
    · simp only [xE, he]
      have : ¬ a = zs.length := by omega
      simp [nfin, this]
    · simp only [xE, he, if_true]
      have hv := sg_le zs (a + 1) (by omega)
      rw [sde_law zs (fF fin) (nfin zs fin) (fun a ha => nfin_law zs fin a ha) _ hv, drop_sg]
      by_cases e2 : a + 1 < zs.length
      · have hs : atS zs (a + 1) = sgnB (zs.getD (a + 1) 0) := by simp [atS, e2]
        rw [drop_at zs (a + 1) e2]
        unfold sg
        rw [hs]
        generalize zs.getD (a + 1) 0 = c at *
        cases hsg : sgnB c <;> simp [us, xS, hsg]
      · rw [List.drop_eq_nil_of_le (by omega)]
        have hs : atS zs (a + 1) = false := by simp [atS, e2]
        unfold sg
        rw [hs]
        rfl
  · have hat : atE zs a = false := by simp [atE, e]
    rw [hat, List.drop_eq_nil_of_le (by omega)]
    have := nfin_law zs fin a h
    rw [List.drop_eq_nil_of_le (by omega)] at this
    exact this

theorem nfrac_law (zs : List Int) (fin : Bool) (a : Nat) (h : a ≤ zs.length) : nfrac zs fin a = xF fin a (zs.drop a) := by
  unfold nfrac
  by_cases e : a < zs.length
  · have hx := nexp_law zs fin a h
    rw [drop_at zs a e] at hx ⊢
    have hat : atP zs a = ptB (zs.getD a 0) := by simp [atP, e]
    rw [hat]
    cases hp : ptB (zs.getD a 0)
    · simp only [xF, hp]
      rw [hx]
      simp [xE]
    · simp only [xF, hp, if_true]
      exact sde_law zs (xE fin) (nexp zs fin) (fun a ha => nexp_law zs fin a ha) _ (by omega)
  · have hat : atP zs a = false := by simp [atP, e]
    have hx := nexp_law zs fin a h
    rw [List.drop_eq_nil_of_le (by omega)] at hx ⊢
    rw [hat]
    exact hx

theorem nz_dig {c : Int} (h : nzB c = true) : dig c = true := by simp [nzB] at h; simp [dig]; omega

theorem nint_law (zs : List Int) (fin : Bool) (a : Nat) (h : a ≤ zs.length) : nint zs fin a = nrun fin 1 a (zs.drop a) := by
  unfold nint
  by_cases e : a = zs.length
  · rw [if_pos e, List.drop_eq_nil_of_le (by omega)]
    cases fin <;> rfl
  · have e1 : ds zs a = if dig (zs.getD a 0) then cd (zs.drop (a + 1)) + 1 else 0 := by
      unfold ds
      rw [drop_at zs a (by omega)]
      rfl
    have hl := ds_le zs a
    rw [if_neg e, drop_at zs a (by omega)]
    generalize zs.getD a 0 = c at *
    cases hz : zrB c
    · cases hn : nzB c
      · simp [nrun, nstep, hz, hn]
      · have hd := nz_dig hn
        rw [if_neg (by simp), if_pos rfl, nfrac_law zs fin _ (by omega)]
        rw [hd, if_pos rfl] at e1
        rw [e1]
        simp only [nrun, nstep, hz, hn]
        simp only [if_true, if_false, Bool.false_eq_true]
        rw [if_neg (by decide), if_neg (by decide)]
        show _ = nrun fin 3 (a + 1) (zs.drop (a + 1))
        rw [nrun3, List.drop_drop, show a + (cd (zs.drop (a + 1)) + 1) = a + 1 + cd (zs.drop (a + 1)) by omega]
    · rw [if_pos rfl, nfrac_law zs fin _ (by omega)]
      simp [nrun, nstep, hz, nrun2]

theorem num_law (zs : List Int) (fin : Bool) (p : Nat) (h : p < zs.length) : numEnd zs p fin = nrun fin 0 p (zs.drop p) := by
  unfold numEnd a0
  rw [drop_at zs p h]
  have hL := nint_law zs fin p (by omega)
  rw [drop_at zs p h] at hL
  generalize zs.getD p 0 = c at *
  cases hm : mnB c
  · rw [if_neg (by simp), hL]
    simp [nrun, nstep, hm]
  · rw [if_pos rfl, nint_law zs fin (p + 1) (by omega)]
    simp [nrun, nstep, hm]

end Go.Proofs.Qxb6603780aMods
