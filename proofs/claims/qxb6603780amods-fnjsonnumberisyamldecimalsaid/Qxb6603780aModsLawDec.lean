/-
  THE PLAIN LAW: isDec is what the decimal automaton says. No Go in sight.
-/
import Derived.Test.Qxb6603780aModsPlainDec
namespace Go.Proofs.Qxb6603780aMods
set_option linter.unusedVariables false
set_option linter.unusedSimpArgs false

/-- A list without its sign. -/
def us : List Int → List Int
  | [] => []
  | c :: cs => if sgnB c then cs else c :: cs
/-- An exponent's text behind its e. -/
def eok (l : List Int) : Bool := decide (cd (us l) ≠ 0) && decide (cd (us l) = (us l).length)
/-- What may follow the mantissa. -/
def tl : List Int → Bool
  | [] => true
  | c :: cs => expB c && eok cs
/-- What may follow the first digits. -/
def mt : List Int → Bool
  | [] => true
  | c :: cs => if ptB c then tl (cs.drop (cd cs)) else expB c && eok cs

theorem sg_not_dig {c : Int} (h : sgnB c = true) : dig c = false := by
  simp [sgnB] at h; simp [dig]; omega
theorem ex_not_dig {c : Int} (h : expB c = true) : dig c = false := by
  simp [expB] at h; simp [dig]; omega
theorem pt_not_dig {c : Int} (h : ptB c = true) : dig c = false := by
  simp [ptB] at h; simp [dig]; omega
theorem pt_not_ex {c : Int} (h : ptB c = true) : expB c = false := by
  simp [ptB] at h; simp [expB]; omega

theorem drun8 (l : List Int) : drun 8 l = decide (cd l = l.length) := by
  induction l with
  | nil => rfl
  | cons c cs ih =>
    cases h : dig c <;> simp [drun, dstep, cd, h, ih]
theorem drun7 (l : List Int) : drun 7 l = (decide (cd l ≠ 0) && decide (cd l = l.length)) := by
  cases l with
  | nil => rfl
  | cons c cs =>
    cases h : dig c <;> simp [drun, dstep, cd, h, drun8]
theorem drun6 (l : List Int) : drun 6 l = eok l := by
  cases l with
  | nil => rfl
  | cons c cs =>
    cases hs : sgnB c
    · cases h : dig c <;> simp [drun, dstep, cd, h, hs, drun8, eok, us]
    · simp [drun, dstep, hs, drun7, eok, us]
theorem drun4 (l : List Int) : drun 4 l = tl (l.drop (cd l)) := by
  induction l with
  | nil => rfl
  | cons c cs ih =>
    cases h : dig c
    · cases he : expB c <;> simp [drun, dstep, cd, h, he, drun6, tl]
    · simp [drun, dstep, cd, h, ih]
theorem drun3 (l : List Int) : drun 3 l = tl (l.drop (cd l)) := by
  cases l with
  | nil => rfl
  | cons c cs =>
    cases h : dig c
    · cases he : expB c <;> simp [drun, dstep, cd, h, he, drun6, tl]
    · simp [drun, dstep, cd, h, drun4]
theorem drun5 (l : List Int) : drun 5 l = (decide (cd l ≠ 0) && tl (l.drop (cd l))) := by
  cases l with
  | nil => rfl
  | cons c cs =>
    cases h : dig c
    · simp [drun, dstep, cd, h]
    · simp [drun, dstep, cd, h, drun4]
theorem drun2 (l : List Int) : drun 2 l = mt (l.drop (cd l)) := by
  induction l with
  | nil => rfl
  | cons c cs ih =>
    cases h : dig c
    · cases hp : ptB c
      · cases he : expB c <;> simp [drun, dstep, cd, h, hp, he, drun6, mt]
      · simp [drun, dstep, cd, h, hp, drun3, mt]
    · simp [drun, dstep, cd, h, ih]
theorem drun1 (l : List Int) : drun 1 l = if cd l ≠ 0 then mt (l.drop (cd l)) else (match l with | [] => false | c :: cs => ptB c && (decide (cd cs ≠ 0) && tl (cs.drop (cd cs)))) := by
  cases l with
  | nil => rfl
  | cons c cs =>
    cases h : dig c
    · cases hp : ptB c
      · simp [drun, dstep, cd, h, hp]
      · simp [drun, dstep, cd, h, hp, drun5]
    · simp [drun, dstep, cd, h, drun2]
theorem drun0 (l : List Int) : drun 0 l = drun 1 (us l) := by
  cases l with
  | nil => rfl
  | cons c cs =>
    cases hs : sgnB c
    · cases h : dig c
      · cases hp : ptB c <;> simp [drun, dstep, h, hp, hs, us]
      · simp [drun, dstep, h, hs, us]
    · simp [drun, dstep, hs, us]

/-- The head of what is left from a place on. -/
def hd (f : Int → Bool) : List Int → Bool
  | [] => false
  | c :: _ => f c

theorem at_hd (f : Int → Bool) (zs : List Int) (i : Nat) : (decide (i < zs.length) && f (zs.getD i 0)) = hd f (zs.drop i) := by
  by_cases h : i < zs.length
  · rw [List.drop_eq_getElem_cons h]
    simp [hd, h]
  · rw [List.drop_eq_nil_of_le (by omega)]
    simp [hd, h]
theorem drop_sg (zs : List Int) (i : Nat) : zs.drop (sg zs i) = us (zs.drop i) := by
  unfold sg atS
  rw [at_hd]
  cases h : zs.drop i with
  | nil => simp [hd, us, h]
  | cons c cs =>
    have ht : zs.drop (i + 1) = cs := by rw [← List.tail_drop, h]; rfl
    cases hs : sgnB c <;> simp [hd, us, hs, h, ht]
theorem len_iff (zs : List Int) (i : Nat) (h : i ≤ zs.length) : decide (i = zs.length) = (zs.drop i).isEmpty := by
  rw [Bool.eq_iff_iff]
  simp
  omega
theorem cd_all (l : List Int) : decide (cd l = l.length) = (l.drop (cd l)).isEmpty := by
  rw [Bool.eq_iff_iff]
  simp
  have := cd_le l
  omega

/-- The end of the number: from the place t on, given that there are digits. -/
theorem tail_law (zs : List Int) (t : Nat) (h : t ≤ zs.length) :
    (if atE zs t then (if ds zs (sg zs (t + 1)) = 0 then false else decide (sg zs (t + 1) + ds zs (sg zs (t + 1)) = zs.length)) else decide (t = zs.length)) = tl (zs.drop t) := by
  unfold atE
  rw [at_hd]
  cases e : zs.drop t with
  | nil =>
    have := len_iff zs t h
    rw [e] at this
    simpa [hd, tl] using this
  | cons c cs =>
    have ht : zs.drop (t + 1) = cs := by rw [← List.tail_drop, e]; rfl
    have hl : t < zs.length := by
      rcases Nat.lt_or_ge t zs.length with h1 | h1
      · exact h1
      · rw [List.drop_eq_nil_of_le h1] at e; cases e
    have hv : sg zs (t + 1) ≤ zs.length := sg_le zs (t + 1) (by omega)
    have hdv := ds_le zs (sg zs (t + 1))
    cases he : expB c
    · have := len_iff zs t h
      rw [e] at this
      simpa [hd, tl, he] using this
    · simp only [hd, tl, he, Bool.true_and, eok]
      have e2 : ds zs (sg zs (t + 1)) = cd (us cs) := by unfold ds; rw [drop_sg, ht]
      have e3 : (us cs).length = zs.length - sg zs (t + 1) := by rw [← ht, ← drop_sg]; simp
      rw [e2] at hdv ⊢
      by_cases h0 : cd (us cs) = 0
      · simp [h0]
      · simp only [if_true, h0, if_false, ne_eq, not_false_eq_true, decide_true, Bool.true_and]
        rw [Bool.eq_iff_iff]
        simp
        omega

theorem dec_law (zs : List Int) : isDec zs = drun 0 zs := by
  have eL : us zs = zs.drop (sg zs 0) := by rw [drop_sg]; rfl
  have hT : isDec zs = if dgs zs = 0 then false else tl (zs.drop (i3 zs)) := by
    unfold isDec
    rw [← tail_law zs (i3 zs) (i3_le zs)]
    rfl
  have e2 : zs.drop (i2 zs) = (us zs).drop (cd (us zs)) := by
    rw [eL, List.drop_drop]; rfl
  have ed : ds zs (sg zs 0) = cd (us zs) := by rw [eL]; rfl
  have eP : atP zs (i2 zs) = hd ptB (zs.drop (i2 zs)) := at_hd ptB zs (i2 zs)
  rw [drun0, drun1, hT]
  cases e : zs.drop (i2 zs) with
  | nil =>
    rw [e] at e2 eP
    have h3 : i3 zs = i2 zs := by unfold i3; rw [eP]; rfl
    have hg : dgs zs = cd (us zs) := by unfold dgs; rw [eP, ed]; rfl
    rw [h3, hg, e, ← e2]
    by_cases h0 : cd (us zs) = 0
    · rw [if_pos h0, if_neg (by simp [h0])]
      rw [h0, List.drop_zero] at e2
      rw [← e2]
    · rw [if_neg h0, if_pos h0]; rfl
  | cons c cs =>
    rw [e] at e2 eP
    have ht : zs.drop (i2 zs + 1) = cs := by rw [← List.tail_drop, e]; rfl
    have edc : ds zs (i2 zs + 1) = cd cs := by unfold ds; rw [ht]
    cases hp : ptB c with
    | false =>
      have eP' : atP zs (i2 zs) = false := by rw [eP]; exact hp
      have h3 : i3 zs = i2 zs := by unfold i3; rw [eP']; rfl
      have hg : dgs zs = cd (us zs) := by unfold dgs; rw [eP', ed]; rfl
      rw [h3, hg, e, ← e2]
      by_cases h0 : cd (us zs) = 0
      · rw [if_pos h0, if_neg (by simp [h0])]
        rw [h0, List.drop_zero] at e2
        rw [← e2]
        simp [hp]
      · rw [if_neg h0, if_pos h0]; simp [tl, mt, hp]
    | true =>
      have eP' : atP zs (i2 zs) = true := by rw [eP]; exact hp
      have h3 : i3 zs = i2 zs + (1 + cd cs) := by unfold i3; rw [eP', edc]; rfl
      have hg : dgs zs = cd (us zs) + cd cs := by unfold dgs; rw [eP', ed, edc]; rfl
      have h4 : zs.drop (i3 zs) = cs.drop (cd cs) := by rw [h3, ← ht, List.drop_drop]; congr 1; omega
      rw [h4, hg, ← e2]
      by_cases h0 : cd (us zs) = 0
      · rw [if_neg (c := cd (us zs) ≠ 0) (by simp [h0])]
        rw [h0, List.drop_zero] at e2
        rw [h0, ← e2]
        by_cases h1 : cd cs = 0
        · simp [h1, hp]
        · simp [h1, hp]
      · rw [if_neg (by omega), if_pos h0]; simp [mt, hp]

end Go.Proofs.Qxb6603780aMods
