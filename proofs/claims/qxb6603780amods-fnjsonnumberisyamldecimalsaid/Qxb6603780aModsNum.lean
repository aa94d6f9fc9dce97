/-
  THE WALKS of numberByAutomaton (14), digitsEnd (25), someDigitsEnd (26).
-/
import Derived.Test.Qxb6603780aModsStepN
namespace Go.Proofs.Qxb6603780aMods
open Go.RowKit
set_option linter.unusedVariables false
set_option linter.unusedSimpArgs false

theorem drop_cons (zs : List Int) (k : Nat) (h : k < zs.length) : zs.drop k = zs.getD k 0 :: zs.drop (k + 1) := by
  rw [List.drop_eq_getElem_cons h]
  simp [List.getD_eq_getElem?_getD, List.getElem?_eq_getElem h]

set_option maxHeartbeats 400000 in
theorem nauto_any (b p n : Nat) (zs : List Int) (fin : Bool) (w : World) (hn : n ≤ 1048576) (hz : zs.length = n) (hp : p < n) (hT : Txt w b zs) :
    Calls Trym.prog 14 #[.slice (some ⟨b, 0, none⟩) n n, .int .i64 p, .bool fin] w fun e w' =>
      e = .returned (.tuple #[.int .i64 (nrun fin 0 p (zs.drop p)).1, .int .u8 (nrun fin 0 p (zs.drop p)).2]) ∧ w' = w := by
  have HZ := hide hz
  have hzl : n ≤ zs.length := by omega
  clear hz
  go_enter Trym.func14, Trym.ntmps14
  go_wp2
  go_loop [8, 9] (fun q i => ∃ st k : Nat, k ≤ n ∧ st ≤ 8 ∧ q = .int .i64 st ∧ i = .int .i64 k ∧ Hid (nrun fin 0 p (zs.drop p) = nrun fin st k (zs.drop k))) (fun _ i => n - (intOf i).toNat)
  case atStart => exact ⟨0, p, by omega, Nat.zero_le _, rfl, rfl, rfl⟩
  case round =>
    obtain ⟨st, k, hk, hst, rfl, rfl, HR⟩ := hrel
    by_cases hlt : k < n
    · rw [drop_cons zs k (by omega)] at HR
      have hcx := hT k (by omega)
      obtain ⟨c, hc⟩ : ∃ c, c = zs.getD k 0 := ⟨_, rfl⟩
      rw [← hc] at HR hcx
      clear hc
      have D := nstep_any st hst c
      have hrng := nstep_range st c
      obtain ⟨t, ht⟩ : ∃ t, t = nstep st c := ⟨_, rfl⟩
      simp only [← ht] at D hrng
      have HT := hide ht
      clear ht
      rcases hrng with rfl | rfl | ⟨h0, h8⟩
      · have HF : Hid (nrun fin 0 p (zs.drop p) = (k, 0)) := by rw [HR.out]; simp only [nrun]; rw [← HT.out]; rfl
        clear HR
        go_wp2_with (go_at_call 21; refine (D _).mono ?_; rintro e w' ⟨rfl, rfl⟩)
        go_ret2
        exact ⟨ret2 HF.out rfl rfl, rfl⟩
      · have HF : Hid (nrun fin 0 p (zs.drop p) = (k, 2)) := by rw [HR.out]; simp only [nrun]; rw [← HT.out]; rfl
        clear HR
        go_wp2_with (go_at_call 21; refine (D _).mono ?_; rintro e w' ⟨rfl, rfl⟩)
        go_ret2
        exact ⟨ret2 HF.out rfl rfl, rfl⟩
      · obtain ⟨t', rfl⟩ : ∃ t' : Nat, t = (t' : Int) := ⟨t.toNat, by omega⟩
        have HF : Hid (nrun fin 0 p (zs.drop p) = nrun fin t' (k + 1) (zs.drop (k + 1))) := by
          rw [HR.out]; simp only [nrun]; rw [← HT.out, if_neg (by omega), if_neg (by omega)]; rfl
        clear HR HT
        go_wp2_with (go_at_call 21; refine (D _).mono ?_; rintro e w' ⟨rfl, rfl⟩)
        go_round
        case rel => exact ⟨t', k + 1, by omega, by omega, rfl, by go_num, HF⟩
        case measure => simp [intOf]; omega
    · have HF : Hid (nrun fin 0 p (zs.drop p) = (k, if fin && decide (st = 2 ∨ st = 3 ∨ st = 5 ∨ st = 8) then 0 else 1)) := by
        rw [HR.out, List.drop_eq_nil_of_le (by have := HZ.out; omega)]; rfl
      clear HR
      cases fin with
      | false =>
        go_wp2
        go_ret2
        exact ⟨ret2 HF.out rfl rfl, rfl⟩
      | true =>
        by_cases ha : st = 2 ∨ st = 3 ∨ st = 5 ∨ st = 8
        · have HF2 : Hid (nrun true 0 p (zs.drop p) = (k, 0)) := hide (by rw [HF.out]; simp [ha])
          clear HF
          rcases ha with rfl | rfl | rfl | rfl
          all_goals
            go_wp2
            go_ret2
            exact ⟨ret2 HF2.out rfl rfl, rfl⟩
        · have HF2 : Hid (nrun true 0 p (zs.drop p) = (k, 1)) := hide (by rw [HF.out]; simp [ha])
          clear HF
          have q1 : ((st : Int) == 2) = false := by simp; omega
          have q2 : ((st : Int) == 3) = false := by simp; omega
          have q3 : ((st : Int) == 5) = false := by simp; omega
          have q4 : ((st : Int) == 8) = false := by simp; omega
          clear ha
          go_wp2
          go_ret2
          exact ⟨ret2 HF2.out rfl rfl, rfl⟩

set_option maxHeartbeats 400000 in
theorem digits_any (b p n : Nat) (zs : List Int) (w : World) (hn : n ≤ 1048576) (hz : zs.length = n) (hp : p ≤ n) (hT : Txt w b zs) :
    Calls Trym.prog 25 #[.slice (some ⟨b, 0, none⟩) n n, .int .i64 p] w fun e w' => e = .returned (.int .i64 (p + ds zs p : Nat)) ∧ w = w' := by
  have hdl := ds_le zs p
  have HZ := hide hz
  have hzl : n ≤ zs.length := by omega
  have hzl2 : zs.length ≤ n := by omega
  clear hz
  go_enter Trym.func25, Trym.ntmps25
  go_wp2
  go_loop [1] (fun i => ∃ k : Nat, k ≤ ds zs p ∧ i = .int .i64 (p + k : Nat)) (fun i => n - (intOf i).toNat)
  case atStart => exact ⟨0, Nat.zero_le _, rfl⟩
  case round =>
    obtain ⟨k, hk, rfl⟩ := hrel
    obtain ⟨q, hq⟩ : ∃ q, q = p + k := ⟨_, rfl⟩
    rw [← hq]
    have HQ := hide hq
    have hqn : q ≤ n := by omega
    clear hq
    by_cases hlt : q < n
    · have hcx := hT q (by omega)
      obtain ⟨c, hc⟩ : ∃ c, c = zs.getD q 0 := ⟨_, rfl⟩
      rw [← hc] at hcx
      have hcd : c = (zs.drop p).getD k 0 := by rw [hc, HQ.out]; simp [List.getD_eq_getElem?_getD]
      clear hc
      have hb : k < ds zs p ∨ k = ds zs p := by omega
      rcases hb with h | h
      · have hd : dig c = true := by rw [hcd]; exact cd_hit _ _ h
        clear hcd
        go_wp2_with (go_at_call 27; refine (isDigit_any _ _).mono ?_; rintro e w' ⟨rfl, rfl⟩)
        go_round
        case rel => exact ⟨k + 1, by omega, by have := HQ.out; subst this; go_num⟩
        case measure => simp [intOf]; omega
      · have hd : dig c = false := by
          rw [hcd, h]; exact cd_stop _ (by have := HQ.out; show ds zs p < _; simp; omega)
        have HK := hide h
        clear h hcd
        go_wp2_with (go_at_call 27; refine (isDigit_any _ _).mono ?_; rintro e w' ⟨rfl, rfl⟩)
        go_ret
        exact ⟨ret_int (by have := HK.out; have := HQ.out; omega), rfl⟩
    · have HK : Hid (k = ds zs p) := by show k = ds zs p; have := HQ.out; omega
      go_wp2
      go_ret
      exact ⟨ret_int (by have := HK.out; have := HQ.out; omega), rfl⟩

set_option maxHeartbeats 400000 in
theorem sde_any (b p n : Nat) (zs : List Int) (w : World) (hn : n ≤ 1048576) (hz : zs.length = n) (hp : p ≤ n) (hT : Txt w b zs) :
    Calls Trym.prog 26 #[.slice (some ⟨b, 0, none⟩) n n, .int .i64 p] w fun e w' => e = .returned (.tuple #[.int .i64 (sde zs p).1, .int .u8 (sde zs p).2]) ∧ w = w' := by
  have HD := digits_any b p n zs w hn hz hp hT
  have HE : Hid (sde zs p = if p = n then (p, 1) else if dig (zs.getD p 0) then (p + ds zs p, 0) else (p, 2)) := by rw [← hz]; rfl
  have hzl : n ≤ zs.length := by omega
  clear hz
  by_cases h : p = n
  · have HF : Hid (sde zs p = (p, 1)) := by rw [HE.out, if_pos h]; rfl
    subst h
    go_enter Trym.func26, Trym.ntmps26
    go_wp2
    go_ret2
    exact ⟨ret2 HF.out rfl rfl, rfl⟩
  · have hlt : p < n := by omega
    rw [if_neg h] at HE
    have hpi : ((p : Int) == (n : Int)) = false := by simp; omega
    clear h
    have hcx := hT p (by omega)
    generalize zs.getD p 0 = c at *
    cases hd : dig c with
    | false =>
      have HF : Hid (sde zs p = (p, 2)) := by rw [HE.out, hd]; rfl
      clear HE
      go_enter Trym.func26, Trym.ntmps26
      go_wp2_with (go_at_call 27; refine (isDigit_any _ _).mono ?_; rintro e w' ⟨rfl, rfl⟩)
      go_ret2
      exact ⟨ret2 HF.out rfl rfl, rfl⟩
    | true =>
      have HF : Hid (sde zs p = (p + ds zs p, 0)) := by rw [HE.out, hd]; rfl
      clear HE
      go_enter Trym.func26, Trym.ntmps26
      go_wp2_with (first | (go_at_call 27; refine (isDigit_any _ _).mono ?_; rintro e w' ⟨rfl, rfl⟩) | (go_at_call 25; refine HD.mono ?_; rintro e w' ⟨rfl, rfl⟩))
      go_ret2
      exact ⟨ret2 HF.out (by simp) rfl, rfl⟩

end Go.Proofs.Qxb6603780aMods
