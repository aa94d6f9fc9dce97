/-
  THE WALK of decimalStep (19).
-/
import Derived.Test.Qxb6603780aModsBase
namespace Go.Proofs.Qxb6603780aMods
open Go.RowKit
set_option linter.unusedVariables false
set_option linter.unusedSimpArgs false

/-- Nine states. -/
def Nine (st : Nat) : Prop := st = 0 ∨ st = 1 ∨ st = 2 ∨ st = 3 ∨ st = 4 ∨ st = 5 ∨ st = 6 ∨ st = 7 ∨ st = 8

set_option maxHeartbeats 4000000 in
theorem dstep_lit {st : Nat} (h9 : Nine st) (c : Int) (w : World) (hc : c = 43 ∨ c = 45 ∨ c = 46 ∨ c = 101 ∨ c = 69) :
    Calls Trym.prog 19 #[.int .i64 st, .int .u8 c] w fun e w' => e = .returned (.int .i64 (dstep st c)) ∧ w' = w := by
  unfold Nine at h9
  rcases hc with rfl | rfl | rfl | rfl | rfl
  all_goals rcases h9 with rfl | rfl | rfl | rfl | rfl | rfl | rfl | rfl | rfl
  all_goals
    go_enter Trym.func19, Trym.ntmps19
    go_wp2
    go_ret
    exact ⟨ret_int (by decide), rfl⟩

set_option maxHeartbeats 4000000 in
theorem dstep_rest {st : Nat} (h9 : Nine st) (c : Int) (w : World) (hc : (48 ≤ c ∧ c ≤ 57) ∨ (c < 48 ∧ c ≠ 43 ∧ c ≠ 45 ∧ c ≠ 46) ∨ (57 < c ∧ c ≠ 101 ∧ c ≠ 69)) :
    Calls Trym.prog 19 #[.int .i64 st, .int .u8 c] w fun e w' => e = .returned (.int .i64 (dstep st c)) ∧ w' = w := by
  unfold Nine at h9
  have q1 : (c == 43) = false := by simp; omega
  have q2 : (c == 45) = false := by simp; omega
  have q3 : (c == 46) = false := by simp; omega
  have q4 : (c == 101) = false := by simp; omega
  have q5 : (c == 69) = false := by simp; omega
  rcases hc with h | h | h
  · have HC := hide (cls_dig h)
    have h1 := h.1
    have h2 := h.2
    clear h
    rcases h9 with rfl | rfl | rfl | rfl | rfl | rfl | rfl | rfl | rfl
    all_goals
      go_enter Trym.func19, Trym.ntmps19
      go_wp2
      go_ret
      obtain ⟨e1, e2, e3, e4⟩ := HC.out
      exact ⟨ret_int (by simp [dstep, e1, e2, e3, e4]), rfl⟩
  · have HC := hide (cls_low h)
    have h1 : ¬ 48 ≤ c := by omega
    clear h
    rcases h9 with rfl | rfl | rfl | rfl | rfl | rfl | rfl | rfl | rfl
    all_goals
      go_enter Trym.func19, Trym.ntmps19
      go_wp2
      go_ret
      obtain ⟨e1, e2, e3, e4⟩ := HC.out
      exact ⟨ret_int (by simp [dstep, e1, e2, e3, e4]), rfl⟩
  · have HC := hide (cls_high h)
    have h1 : 48 ≤ c := by omega
    have h2 : ¬ c ≤ 57 := by omega
    clear h
    rcases h9 with rfl | rfl | rfl | rfl | rfl | rfl | rfl | rfl | rfl
    all_goals
      go_enter Trym.func19, Trym.ntmps19
      go_wp2
      go_ret
      obtain ⟨e1, e2, e3, e4⟩ := HC.out
      exact ⟨ret_int (by simp [dstep, e1, e2, e3, e4]), rfl⟩

theorem dstep_any (st : Nat) (hst : st ≤ 8) (c : Int) (w : World) :
    Calls Trym.prog 19 #[.int .i64 st, .int .u8 c] w fun e w' => e = .returned (.int .i64 (dstep st c)) ∧ w' = w := by
  have h9 : Nine st := by unfold Nine; omega
  rcases cls_of c with h | h | h | h | h | h
  · exact dstep_lit h9 c w (by omega)
  · exact dstep_lit h9 c w (by omega)
  · exact dstep_lit h9 c w (by omega)
  · exact dstep_lit h9 c w (by omega)
  · exact dstep_lit h9 c w (by omega)
  · exact dstep_rest h9 c w h

end Go.Proofs.Qxb6603780aMods
