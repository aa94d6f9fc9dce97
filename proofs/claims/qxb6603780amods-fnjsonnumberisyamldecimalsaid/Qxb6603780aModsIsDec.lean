/-
  THE WALKS of isDecimal (18), ZZisDecimal (8).
-/
import Derived.Test.Qxb6603780aModsDec
import Derived.Deep.DeepCutAuto
import Derived.Lib.Strings
import Derived.Lib.IndexBytes
namespace Go.Proofs.Qxb6603780aMods
open Go.RowKit
set_option linter.unusedVariables false
set_option linter.unusedSimpArgs false

theorem atS_no {s : ByteArray} {i : Nat} (h : ¬ i < s.size) : atS (wl s) i = false := by simp [atS, wl_len, h]
theorem atS_at {s : ByteArray} {i : Nat} (h : i < s.size) : atS (wl s) i = sgnB ((s[i]'h).toNat : Int) := by simp only [atS, wl_len, wl_at s i h, decide_eq_true h, Bool.true_and]
theorem atE_no {s : ByteArray} {i : Nat} (h : ¬ i < s.size) : atE (wl s) i = false := by simp [atE, wl_len, h]
theorem atE_at {s : ByteArray} {i : Nat} (h : i < s.size) : atE (wl s) i = expB ((s[i]'h).toNat : Int) := by simp only [atE, wl_len, wl_at s i h, decide_eq_true h, Bool.true_and]
theorem atP_no {s : ByteArray} {i : Nat} (h : ¬ i < s.size) : atP (wl s) i = false := by simp [atP, wl_len, h]
theorem atP_at {s : ByteArray} {i : Nat} (h : i < s.size) : atP (wl s) i = ptB ((s[i]'h).toNat : Int) := by simp only [atP, wl_len, wl_at s i h, decide_eq_true h, Bool.true_and]

theorem sg_yes {zs : List Int} {i : Nat} (h : atS zs i = true) : sg zs i = i + 1 := by unfold sg; rw [if_pos h]
theorem sg_no {zs : List Int} {i : Nat} (h : atS zs i = false) : sg zs i = i := by unfold sg; rw [if_neg (by simp [h])]
theorem wl_extract (s : ByteArray) (i : Nat) : wl (s.extract i s.size) = (wl s).drop i := by
  unfold wl
  rw [← List.map_drop]
  congr 1
  exact Lib.extract_to_end s i

theorem count_ext (s : ByteArray) (i d : Nat) (w : World) (hs : s.size ≤ 1048576) (hd : ds (wl s) i = d) :
    Calls Trym.prog 24 #[.string (s.extract i s.size)] w fun e w' => e = .returned (.int .i64 d) ∧ w = w' := by
  refine (count_any (s.extract i s.size) w (by simp; omega)).mono fun e w' ⟨h1, h2⟩ => ⟨?_, h2.symm⟩
  rw [h1, wl_extract, ← hd]
  rfl

set_option maxRecDepth 100000 in
set_option maxHeartbeats 1000000 in
theorem isDec_any (s : ByteArray) (w : World) (hs : s.size ≤ 1048576) :
    Calls Trym.prog 18 #[.string s] w fun e w' => e = .returned (.bool (isDec (wl s))) ∧ w' = w := by
  have hs1 := sg_le (wl s) 0 (Nat.zero_le _)
  have hd1 := ds_le (wl s) (sg (wl s) 0)
  have hi2 := i2_le (wl s)
  rw [wl_len] at hs1 hd1 hi2
  go_enter Trym.func18, Trym.ntmps18
  go_upto_region 2 with fail
  go_cut [22] (fun b wx => b = .bool (atS (wl s) 0) ∧ w = wx)
  case first =>
    by_cases h0 : 0 < s.size
    · have HA := hide (atS_at h0)
      go_wp2_with fail
      · go_meet
        case rel => exact ⟨val_bool ((sgnB_43 (by assumption)).trans HA.out.symm), rfl⟩
      · go_meet
        case rel => exact ⟨val_bool ((sgnB_eq _).trans HA.out.symm), rfl⟩
    · have HA := hide (atS_no h0)
      go_wp2_with fail
      go_meet
      case rel => exact ⟨val_bool HA.out.symm, rfl⟩
  case rest =>
  obtain ⟨rfl, rfl⟩ := hcut
  go_upto_if 22 with fail
  go_cut [3] (fun i wx => i = .int .i64 (sg (wl s) 0) ∧ w = wx)
  case first =>
    go_wp2_with fail
    · go_meet
      case rel => exact ⟨by rw [sg_yes (by assumption)]; rfl, rfl⟩
    · go_meet
      case rel => exact ⟨by rw [sg_no (by assumption)]; rfl, rfl⟩
  case rest =>
  obtain ⟨rfl, rfl⟩ := hcut
  have HJ : Hid (i2 (wl s) = sg (wl s) 0 + ds (wl s) (sg (wl s) 0)) := rfl
  have HD : Hid (dgs (wl s) = if atP (wl s) (i2 (wl s)) then ds (wl s) (sg (wl s) 0) + ds (wl s) (i2 (wl s) + 1) else ds (wl s) (sg (wl s) 0)) := rfl
  have HT : Hid (i3 (wl s) = if atP (wl s) (i2 (wl s)) then i2 (wl s) + (1 + ds (wl s) (i2 (wl s) + 1)) else i2 (wl s)) := rfl
  have hi3 := i3_le (wl s)
  rw [wl_len] at hi3
  generalize sg (wl s) 0 = i at *
  have hC := fun w => count_ext s i _ w hs rfl
  generalize ds (wl s) i = d at *
  generalize i2 (wl s) = j at *
  go_upto_region 5 with (go_at_call 24; refine (hC _).mono ?_; rintro e w' ⟨rfl, rfl⟩)
  go_cut [3] (fun x wx => x = .int .i64 j ∧ w = wx)
  case first =>
    go_wp2_with fail
    go_meet
    case rel => exact ⟨by rw [HJ.out]; go_num, rfl⟩
  case rest =>
  obtain ⟨rfl, rfl⟩ := hcut
  clear hC
  go_upto_region 6 with fail
  go_cut [41] (fun b wx => b = .bool (atP (wl s) j) ∧ w = wx)
  case first =>
    by_cases h0 : j < s.size
    · have HA := hide (atP_at h0)
      go_wp2_with fail
      go_meet
      case rel => exact ⟨val_bool ((ptB_eq _).trans HA.out.symm), rfl⟩
    · have HA := hide (atP_no h0)
      go_wp2_with fail
      go_meet
      case rel => exact ⟨val_bool HA.out.symm, rfl⟩
  case rest =>
  obtain ⟨rfl, rfl⟩ := hcut
  go_upto_if 41 with fail
  go_cut [3, 4, 5] (fun x y z wx => x = .int .i64 (i3 (wl s)) ∧ y = .int .i64 (dgs (wl s)) ∧ w = wx)
  case first =>
    cases hP : atP (wl s) j with
    | false =>
      rw [hP] at HD HT
      go_wp2_with fail
      go_meet
      case rel => exact ⟨by rw [HT.out]; rfl, by rw [HD.out]; rfl, rfl⟩
    | true =>
      have hj : j < s.size := by have := atP_lt hP; rw [wl_len] at this; exact this
      rw [hP] at HD HT
      clear hP
      have hd2 := ds_le (wl s) (j + 1)
      rw [wl_len] at hd2
      have hC := fun w => count_ext s (j + 1) _ w hs rfl
      generalize ds (wl s) (j + 1) = d2 at *
      go_wp2_with (go_at_call 24; refine (hC _).mono ?_; rintro e w' ⟨rfl, rfl⟩)
      go_meet
      case rel => exact ⟨by rw [HT.out]; go_num, by rw [HD.out]; go_num, rfl⟩
  case rest =>
  obtain ⟨rfl, rfl, rfl⟩ := hcut
  clear HD HT HJ
  have HR : Hid (isDec (wl s) = if dgs (wl s) = 0 then false
      else if atE (wl s) (i3 (wl s)) then (if ds (wl s) (sg (wl s) (i3 (wl s) + 1)) = 0 then false else decide (sg (wl s) (i3 (wl s) + 1) + ds (wl s) (sg (wl s) (i3 (wl s) + 1)) = (wl s).length))
      else decide (i3 (wl s) = (wl s).length)) := rfl
  rw [wl_len] at HR
  generalize dgs (wl s) = D at *
  generalize i3 (wl s) = t at *
  by_cases hD0 : D = 0
  · subst hD0
    go_wp2
    go_ret
    exact ⟨ret_bool (by rw [HR.out]; rfl), rfl⟩
  have HR2 : Hid (isDec (wl s) = if atE (wl s) t then (if ds (wl s) (sg (wl s) (t + 1)) = 0 then false else decide (sg (wl s) (t + 1) + ds (wl s) (sg (wl s) (t + 1)) = s.size))
      else decide (t = s.size)) := by rw [HR.out, if_neg hD0]; rfl
  clear HR
  have hDi : ((D : Int) == 0) = false := by simp; omega
  clear hD0
  go_upto_region 12 with fail
  go_cut [71] (fun b wx => b = .bool (atE (wl s) t) ∧ w = wx)
  case first =>
    by_cases h0 : t < s.size
    · have HA := hide (atE_at h0)
      go_wp2_with fail
      · go_meet
        case rel => exact ⟨val_bool ((expB_101 (by assumption)).trans HA.out.symm), rfl⟩
      · go_meet
        case rel => exact ⟨val_bool ((expB_eq _).trans HA.out.symm), rfl⟩
    · have HA := hide (atE_no h0)
      go_wp2_with fail
      go_meet
      case rel => exact ⟨val_bool HA.out.symm, rfl⟩
  case rest =>
  obtain ⟨rfl, rfl⟩ := hcut
  cases hE : atE (wl s) t with
  | false =>
    have HR3 : Hid (isDec (wl s) = decide (t = s.size)) := by rw [HR2.out, hE]; rfl
    clear HR2 hE
    go_wp2
    go_ret
    exact ⟨ret_bool (by rw [HR3.out, Bool.eq_iff_iff]; simp; omega), rfl⟩
  | true =>
    have ht : t < s.size := by have := atE_lt hE; rw [wl_len] at this; exact this
    have HR3 : Hid (isDec (wl s) = if ds (wl s) (sg (wl s) (t + 1)) = 0 then false else decide (sg (wl s) (t + 1) + ds (wl s) (sg (wl s) (t + 1)) = s.size)) := by rw [HR2.out, hE]; rfl
    have h4 := sg_le (wl s) (t + 1) (by rw [wl_len]; omega)
    rw [wl_len] at h4
    obtain ⟨t', ht'⟩ : ∃ t', t' = t + 1 := ⟨_, rfl⟩
    rw [← ht'] at HR3 h4
    have HT' := hide ht'
    clear HR2 hE ht'
    go_upto_region 13 with fail
    go_cut [3] (fun x wx => x = .int .i64 t' ∧ w = wx)
    case first =>
      go_wp2_with fail
      go_meet
      case rel => exact ⟨by rw [HT'.out]; go_num, rfl⟩
    case rest =>
    obtain ⟨rfl, rfl⟩ := hcut
    have ht2 : t' ≤ s.size := by have := HT'.out; omega
    clear HT'
    go_upto_region 14 with fail
    go_cut [89] (fun b wx => b = .bool (atS (wl s) t') ∧ w = wx)
    case first =>
      by_cases h0 : t' < s.size
      · have HA := hide (atS_at h0)
        go_wp2_with fail
        · go_meet
          case rel => exact ⟨val_bool ((sgnB_43 (by assumption)).trans HA.out.symm), rfl⟩
        · go_meet
          case rel => exact ⟨val_bool ((sgnB_eq _).trans HA.out.symm), rfl⟩
      · have HA := hide (atS_no h0)
        go_wp2_with fail
        go_meet
        case rel => exact ⟨val_bool HA.out.symm, rfl⟩
    case rest =>
    obtain ⟨rfl, rfl⟩ := hcut
    go_upto_if 89 with fail
    go_cut [3] (fun i wx => i = .int .i64 (sg (wl s) t') ∧ w = wx)
    case first =>
      go_wp2_with fail
      · go_meet
        case rel => exact ⟨by rw [sg_yes (by assumption)]; go_num, rfl⟩
      · go_meet
        case rel => exact ⟨by rw [sg_no (by assumption)], rfl⟩
    case rest =>
    obtain ⟨rfl, rfl⟩ := hcut
    generalize sg (wl s) t' = v at *
    have hdv := ds_le (wl s) v
    rw [wl_len] at hdv
    have hC := fun w => count_ext s v _ w hs rfl
    generalize ds (wl s) v = k at *
    by_cases hk0 : k = 0
    · subst hk0
      go_wp2_with (go_at_call 24; refine (hC _).mono ?_; rintro e w' ⟨rfl, rfl⟩)
      go_ret
      exact ⟨ret_bool (by rw [HR3.out]; rfl), rfl⟩
    · have HR4 : Hid (isDec (wl s) = decide (v + k = s.size)) := by rw [HR3.out, if_neg hk0]; rfl
      have hki : ((k : Int) == 0) = false := by simp; omega
      clear HR3 hk0
      go_wp2_with (go_at_call 24; refine (hC _).mono ?_; rintro e w' ⟨rfl, rfl⟩)
      go_ret
      exact ⟨ret_bool (by rw [HR4.out, Bool.eq_iff_iff]; simp; omega), rfl⟩

theorem zzIsDec_any (s : ByteArray) (w : World) (hs : s.size ≤ 1048576) :
    Calls Trym.prog 8 #[.string s] w fun e w' => e = .returned (.bool (isDec (wl s))) ∧ w' = w := by
  have H := isDec_any s w hs
  go_enter Trym.func8, Trym.ntmps8
  go_wp2_with (go_at_call 18; refine H.mono ?_; rintro e w' ⟨rfl, rfl⟩)
  go_ret
  exact ⟨rfl, rfl⟩

end Go.Proofs.Qxb6603780aMods
