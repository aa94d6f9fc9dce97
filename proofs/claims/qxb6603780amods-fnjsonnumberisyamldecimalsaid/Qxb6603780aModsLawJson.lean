/-
  THE PLAIN LAW: a text that the number automaton reads whole is a decimal. No Go in sight.
-/
import Derived.Test.Qxb6603780aModsLawNum
namespace Go.Proofs.Qxb6603780aMods
set_option linter.unusedVariables false
set_option linter.unusedSimpArgs false

/-- The decimal automaton's state that goes with a state of the number automaton. -/
def mst (st : Nat) : Nat :=
  match st with
  | 0 => 0 | 1 => 1 | 2 => 2 | 3 => 2 | 4 => 3 | 5 => 4 | 6 => 6 | 7 => 7 | _ => 8

theorem mst_step (st : Nat) (hst : st ≤ 8) (c : Int) (h : 0 ≤ nstep st c) : dstep (mst st) c = (mst (nstep st c).toNat : Int) := by
  have h9 : st = 0 ∨ st = 1 ∨ st = 2 ∨ st = 3 ∨ st = 4 ∨ st = 5 ∨ st = 6 ∨ st = 7 ∨ st = 8 := by omega
  by_cases hl : c = 43 ∨ c = 45 ∨ c = 46 ∨ c = 101 ∨ c = 69 ∨ c = 48
  · rcases hl with rfl | rfl | rfl | rfl | rfl | rfl
    all_goals rcases h9 with rfl | rfl | rfl | rfl | rfl | rfl | rfl | rfl | rfl
    all_goals (revert h; decide)
  · have hm : mnB c = false := decide_eq_false (by omega)
    have hz : zrB c = false := decide_eq_false (by omega)
    by_cases hd : 49 ≤ c ∧ c ≤ 57
    · have hn : nzB c = true := decide_eq_true hd
      obtain ⟨e1, e2, e3, e4⟩ := cls_dig (c := c) ⟨by omega, hd.2⟩
      rcases h9 with rfl | rfl | rfl | rfl | rfl | rfl | rfl | rfl | rfl
      all_goals first | (simp [nstep, dstep, mst, e1, e2, e3, e4, hm, hz, hn]; done) | (simp [nstep, e3, e4] at h; done)
    · have hn : nzB c = false := decide_eq_false hd
      have hC : Cls c false false false false := by
        by_cases hlow : c < 48
        · exact cls_low (by omega)
        · exact cls_high (by omega)
      obtain ⟨e1, e2, e3, e4⟩ := hC
      rcases h9 with rfl | rfl | rfl | rfl | rfl | rfl | rfl | rfl | rfl
      all_goals simp [nstep, e1, e2, e3, e4, hm, hz, hn] at h

theorem json_run (l : List Int) (st i : Nat) (hst : st ≤ 8) (h : nrun true st i l = (i + l.length, 0)) : drun (mst st) l = true := by
  induction l generalizing st i with
  | nil =>
    simp [nrun] at h
    have h4 : st = 2 ∨ st = 3 ∨ st = 5 ∨ st = 8 := by omega
    rcases h4 with rfl | rfl | rfl | rfl <;> rfl
  | cons c cs ih =>
    simp only [nrun] at h
    rcases nstep_range st c with e | e | ⟨e, e8⟩
    · rw [if_pos e] at h; simp at h
    · rw [if_neg (by omega), if_pos e] at h; simp at h
    · rw [if_neg (by omega), if_neg (by omega)] at h
      have hs := mst_step st hst c e
      have hr := ih (nstep st c).toNat (i + 1) (by omega) (by rw [h]; simp; omega)
      simp only [drun]
      rw [hs, if_neg (by omega)]
      simpa using hr

theorem json_law (zs : List Int) (h0 : 0 < zs.length) (h : numEnd zs 0 true = (zs.length, 0)) : isDec zs = true := by
  rw [dec_law]
  rw [num_law zs true 0 h0] at h
  exact json_run zs 0 0 (by omega) (by simpa using h)

end Go.Proofs.Qxb6603780aMods
