/-
  THE WALKS of decimalByAutomaton (9), countDigits (24).
-/
import Derived.Test.Qxb6603780aModsStepD
namespace Go.Proofs.Qxb6603780aMods
open Go.RowKit
set_option linter.unusedVariables false
set_option linter.unusedSimpArgs false

set_option maxHeartbeats 400000 in
theorem dauto_any (s : ByteArray) (w : World) (hs : s.size ≤ 1048576) :
    Calls Trym.prog 9 #[.string s] w fun e w' => e = .returned (.bool (drun 0 (wl s))) ∧ w' = w := by
  go_enter Trym.func9, Trym.ntmps9
  go_wp2
  go_loop [3, 4] (fun q i => ∃ st k : Nat, k ≤ s.size ∧ st ≤ 8 ∧ q = .int .i64 st ∧ i = .int .i64 k ∧ Hid (drun st ((wl s).drop k) = drun 0 (wl s))) (fun _ i => s.size - (intOf i).toNat)
  case atStart => exact ⟨0, 0, Nat.zero_le _, Nat.zero_le _, rfl, rfl, rfl⟩
  case round =>
    obtain ⟨st, k, hk, hst, rfl, rfl, HR⟩ := hrel
    by_cases hlt : k < s.size
    · have D := dstep_any st hst ((s[k]'hlt).toNat : Int)
      have hd := wl_drop s k hlt
      rw [hd] at HR
      clear hd
      have hrng := dstep_range st ((s[k]'hlt).toNat : Int)
      obtain ⟨t, ht⟩ : ∃ t, t = dstep st ((s[k]'hlt).toNat : Int) := ⟨_, rfl⟩
      simp only [← ht] at D hrng
      have HT := hide ht
      clear ht
      by_cases ht0 : t < 0
      · have HF : Hid (false = drun 0 (wl s)) := by rw [← HR.out]; simp only [drun]; rw [← HT.out, if_pos ht0]; rfl
        go_wp2_with (go_at_call 19; refine (D _).mono ?_; rintro e w' ⟨rfl, rfl⟩)
        go_ret
        exact ⟨ret_bool HF.out, rfl⟩
      · obtain ⟨t', rfl⟩ : ∃ t' : Nat, t = (t' : Int) := ⟨t.toNat, by omega⟩
        have HF : Hid (drun t' ((wl s).drop (k + 1)) = drun 0 (wl s)) := by
          rw [← HR.out]; simp only [drun]; rw [← HT.out, if_neg ht0]; rfl
        clear HR HT
        go_wp2_with (go_at_call 19; refine (D _).mono ?_; rintro e w' ⟨rfl, rfl⟩)
        go_round
        case rel => exact ⟨t', k + 1, by omega, by omega, rfl, by go_num, HF⟩
        case measure => simp [intOf]; omega
    · have HF : Hid (decide (st = 2 ∨ st = 3 ∨ st = 4 ∨ st = 8) = drun 0 (wl s)) := by
        rw [← HR.out, List.drop_eq_nil_of_le (by rw [wl_len]; omega)]; rfl
      clear HR
      go_wp2
      all_goals
        go_ret
        refine ⟨ret_bool ?_, rfl⟩
        rw [← HF.out, Bool.eq_iff_iff]
        simp
        omega

set_option maxHeartbeats 400000 in
theorem count_any (s : ByteArray) (w : World) (hs : s.size ≤ 1048576) :
    Calls Trym.prog 24 #[.string s] w fun e w' => e = .returned (.int .i64 (cd (wl s))) ∧ w' = w := by
  have hcl := cd_le (wl s)
  rw [wl_len] at hcl
  go_enter Trym.func24, Trym.ntmps24
  go_wp2
  go_loop [3] (fun i => ∃ k : Nat, k ≤ cd (wl s) ∧ i = .int .i64 k) (fun i => s.size - (intOf i).toNat)
  case atStart => exact ⟨0, Nat.zero_le _, rfl⟩
  case round =>
    obtain ⟨k, hk, rfl⟩ := hrel
    by_cases hlt : k < s.size
    · have hb : k < cd (wl s) ∨ k = cd (wl s) := by omega
      rcases hb with h | h
      · have hd : dig ((s[k]'hlt).toNat : Int) = true := by rw [← wl_at s k hlt]; exact cd_hit _ _ h
        go_wp2_with (go_at_call 27; refine (isDigit_any _ _).mono ?_; rintro e w' ⟨rfl, rfl⟩)
        go_round
        case rel => exact ⟨k + 1, by omega, by go_num⟩
        case measure => simp [intOf]; omega
      · have hd : dig ((s[k]'hlt).toNat : Int) = false := by
          rw [← wl_at s k hlt, h]; exact cd_stop _ (by rw [wl_len]; omega)
        have HK := hide h
        clear h
        go_wp2_with (go_at_call 27; refine (isDigit_any _ _).mono ?_; rintro e w' ⟨rfl, rfl⟩)
        go_ret
        exact ⟨ret_int (by rw [← HK.out]), rfl⟩
    · have HK : Hid (k = cd (wl s)) := by show k = cd (wl s); omega
      go_wp2
      go_ret
      exact ⟨ret_int (by rw [← HK.out]), rfl⟩

end Go.Proofs.Qxb6603780aMods
