/-
  THE WALK of numberStep (21).
-/
import Derived.Test.Qxb6603780aModsStepD
import Derived.Test.Qxb6603780aModsPlainNum
namespace Go.Proofs.Qxb6603780aMods
open Go.RowKit
set_option linter.unusedVariables false
set_option linter.unusedSimpArgs false

set_option maxHeartbeats 4000000 in
theorem nstep_lit {st : Nat} (h9 : Nine st) (c : Int) (w : World) (hc : c = 43 ∨ c = 45 ∨ c = 46 ∨ c = 101 ∨ c = 69 ∨ c = 48) :
    Calls Trym.prog 21 #[.int .i64 st, .int .u8 c] w fun e w' => e = .returned (.int .i64 (nstep st c)) ∧ w' = w := by
  unfold Nine at h9
  rcases hc with rfl | rfl | rfl | rfl | rfl | rfl
  all_goals rcases h9 with rfl | rfl | rfl | rfl | rfl | rfl | rfl | rfl | rfl
  all_goals
    go_enter Trym.func21, Trym.ntmps21
    go_wp2
    go_ret
    exact ⟨ret_int (by decide), rfl⟩

set_option maxHeartbeats 4000000 in
theorem nstep_rest {st : Nat} (h9 : Nine st) (c : Int) (w : World) (hc : (49 ≤ c ∧ c ≤ 57) ∨ (c < 48 ∧ c ≠ 43 ∧ c ≠ 45 ∧ c ≠ 46) ∨ (57 < c ∧ c ≠ 101 ∧ c ≠ 69)) :
    Calls Trym.prog 21 #[.int .i64 st, .int .u8 c] w fun e w' => e = .returned (.int .i64 (nstep st c)) ∧ w' = w := by
  unfold Nine at h9
  have q1 : (c == 43) = false := by simp; omega
  have q2 : (c == 45) = false := by simp; omega
  have q3 : (c == 46) = false := by simp; omega
  have q4 : (c == 101) = false := by simp; omega
  have q5 : (c == 69) = false := by simp; omega
  have q6 : (c == 48) = false := by simp; omega
  have HM : Hid (mnB c = false ∧ zrB c = false) := ⟨decide_eq_false (by omega), decide_eq_false (by omega)⟩
  rcases hc with h | h | h
  · have HC := hide (cls_dig ⟨by omega, h.2⟩)
    have HN : Hid (nzB c = true) := decide_eq_true h
    have h1 := h.1
    have h2 := h.2
    have h3 : 48 ≤ c := by omega
    clear h
    rcases h9 with rfl | rfl | rfl | rfl | rfl | rfl | rfl | rfl | rfl
    all_goals
      go_enter Trym.func21, Trym.ntmps21
      go_wp2
      go_ret
      obtain ⟨e1, e2, e3, e4⟩ := HC.out
      exact ⟨ret_int (by simp [nstep, e1, e2, e3, e4, HM.out.1, HM.out.2, HN.out]), rfl⟩
  · have HC := hide (cls_low h)
    have HN : Hid (nzB c = false) := decide_eq_false (by omega)
    have h1 : ¬ 48 ≤ c := by omega
    have h2 : ¬ 49 ≤ c := by omega
    clear h
    rcases h9 with rfl | rfl | rfl | rfl | rfl | rfl | rfl | rfl | rfl
    all_goals
      go_enter Trym.func21, Trym.ntmps21
      go_wp2
      go_ret
      obtain ⟨e1, e2, e3, e4⟩ := HC.out
      exact ⟨ret_int (by simp [nstep, e1, e2, e3, e4, HM.out.1, HM.out.2, HN.out]), rfl⟩
  · have HC := hide (cls_high h)
    have HN : Hid (nzB c = false) := decide_eq_false (by omega)
    have h1 : 48 ≤ c := by omega
    have h3 : 49 ≤ c := by omega
    have h2 : ¬ c ≤ 57 := by omega
    clear h
    rcases h9 with rfl | rfl | rfl | rfl | rfl | rfl | rfl | rfl | rfl
    all_goals
      go_enter Trym.func21, Trym.ntmps21
      go_wp2
      go_ret
      obtain ⟨e1, e2, e3, e4⟩ := HC.out
      exact ⟨ret_int (by simp [nstep, e1, e2, e3, e4, HM.out.1, HM.out.2, HN.out]), rfl⟩

theorem nstep_any (st : Nat) (hst : st ≤ 8) (c : Int) (w : World) :
    Calls Trym.prog 21 #[.int .i64 st, .int .u8 c] w fun e w' => e = .returned (.int .i64 (nstep st c)) ∧ w' = w := by
  have h9 : Nine st := by unfold Nine; omega
  by_cases h : c = 43 ∨ c = 45 ∨ c = 46 ∨ c = 101 ∨ c = 69 ∨ c = 48
  · exact nstep_lit h9 c w h
  · exact nstep_rest h9 c w (by omega)

end Go.Proofs.Qxb6603780aMods
