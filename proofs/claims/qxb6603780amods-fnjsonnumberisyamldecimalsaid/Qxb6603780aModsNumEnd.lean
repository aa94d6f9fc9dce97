/-
  THE WALKS of numberEnd (20), ZZnumberEnd (12).
-/
import Derived.Test.Qxb6603780aModsNum
import Derived.Deep.DeepCutAuto
import Derived.Deep.CutBlock
namespace Go.Proofs.Qxb6603780aMods
open Go.RowKit
set_option linter.unusedVariables false
set_option linter.unusedSimpArgs false

theorem a0_yes {zs : List Int} {p : Nat} (h : (zs[p]?.getD 0 == 45) = true) : a0 zs p = p + 1 := by
  unfold a0 mnB; rw [List.getD_eq_getElem?_getD, if_pos (by simpa using h)]
theorem a0_no {zs : List Int} {p : Nat} (h : (zs[p]?.getD 0 == 45) = false) : a0 zs p = p := by
  unfold a0 mnB; rw [List.getD_eq_getElem?_getD, if_neg (by simpa using h)]
theorem a0_le (zs : List Int) (p : Nat) : a0 zs p ≤ p + 1 := by
  unfold a0; split <;> omega

theorem atS_no' {zs : List Int} {i n : Nat} (hz : zs.length = n) (h : ¬ i < n) : atS zs i = false := by simp [atS, hz, h]
theorem atS_at' {zs : List Int} {i n : Nat} (hz : zs.length = n) (h : i < n) : atS zs i = sgnB (zs.getD i 0) := by simp only [atS, hz, decide_eq_true h, Bool.true_and]
theorem atE_no' {zs : List Int} {i n : Nat} (hz : zs.length = n) (h : ¬ i < n) : atE zs i = false := by simp [atE, hz, h]
theorem atE_at' {zs : List Int} {i n : Nat} (hz : zs.length = n) (h : i < n) : atE zs i = expB (zs.getD i 0) := by simp only [atE, hz, decide_eq_true h, Bool.true_and]
theorem atP_no' {zs : List Int} {i n : Nat} (hz : zs.length = n) (h : ¬ i < n) : atP zs i = false := by simp [atP, hz, h]
theorem atP_at' {zs : List Int} {i n : Nat} (hz : zs.length = n) (h : i < n) : atP zs i = ptB (zs.getD i 0) := by simp only [atP, hz, decide_eq_true h, Bool.true_and]
theorem sg_yes' {zs : List Int} {i : Nat} (h : atS zs i = true) : sg zs i = i + 1 := by unfold sg; rw [if_pos h]
theorem sg_no' {zs : List Int} {i : Nat} (h : atS zs i = false) : sg zs i = i := by unfold sg; rw [if_neg (by simp [h])]

set_option maxRecDepth 100000 in
set_option maxHeartbeats 2000000 in
theorem numEnd_any (b p n : Nat) (zs : List Int) (fin : Bool) (w : World) (hn : n ≤ 1048576) (hz : zs.length = n) (hp : p < n) (hT : Txt w b zs) :
    Calls Trym.prog 20 #[.slice (some ⟨b, 0, none⟩) n n, .int .i64 p, .bool fin] w fun e w' =>
      e = .returned (.tuple #[.int .i64 (numEnd zs p fin).1, .int .u8 (numEnd zs p fin).2]) ∧ w = w' := by
  have SD := hide (fun i (hi : i ≤ n) => sde_any b i n zs w hn hz hi hT)
  have DG := hide (fun i (hi : i ≤ n) => digits_any b i n zs w hn hz hi hT)
  have HZ := hide hz
  have hzl : n ≤ zs.length := by omega
  clear hz
  have hcx := hT p (by omega)
  have HN : Hid (numEnd zs p fin = nint zs fin (a0 zs p)) := rfl
  go_enter Trym.func20, Trym.ntmps20
  go_upto_if 13 with fail
  go_cut [1] (fun i wx => i = .int .i64 (a0 zs p) ∧ w = wx)
  case first =>
    go_wp2_with fail
    · go_meet
      case rel => exact ⟨by rw [a0_yes (by assumption)]; rfl, rfl⟩
    · go_meet
      case rel => exact ⟨by rw [a0_no (by assumption)], rfl⟩
  case rest =>
  obtain ⟨rfl, rfl⟩ := hcut
  have ha := a0_le zs p
  generalize a0 zs p = a at *
  have han : a ≤ n := by omega
  clear ha hcx
  go_upto_block 0 with fail
  go_cut [1] (fun i wx => ∃ a1 : Nat, a1 ≤ n ∧ i = .int .i64 a1 ∧ Hid (numEnd zs p fin = nfrac zs fin a1) ∧ w = wx)
  case first =>
    have HE : Hid (nint zs fin a = if a = n then (a, 1) else if zrB (zs.getD a 0) then nfrac zs fin (a + 1) else if nzB (zs.getD a 0) then nfrac zs fin (a + ds zs a) else (a, 2)) := by rw [← HZ.out]; rfl
    by_cases h : a = n
    · have HF : Hid (numEnd zs p fin = (a, 1)) := by rw [HN.out, HE.out, if_pos h]; rfl
      have hpi : ((a : Int) == (n : Int)) = true := by simp; omega
      clear HE h
      go_wp2_with fail
      go_ret2
      exact ⟨ret2 HF.out rfl rfl, rfl⟩
    · have hlt : a < n := by omega
      have hpi : ((a : Int) == (n : Int)) = false := by simp; omega
      rw [if_neg h] at HE
      clear h
      have hcx := hT a (by omega)
      generalize zs.getD a 0 = c at *
      have hcs : c = 48 ∨ (49 ≤ c ∧ c ≤ 57) ∨ ¬ 49 ≤ c ∧ c ≠ 48 ∨ 49 ≤ c ∧ ¬ c ≤ 57 := by omega
      rcases hcs with rfl | ⟨h1, h2⟩ | ⟨h1, h2⟩ | ⟨h1, h2⟩
      · have HF : Hid (numEnd zs p fin = nfrac zs fin (a + 1)) := by rw [HN.out, HE.out]; rfl
        clear HE
        go_wp2_with fail
        go_meet
        case rel => exact ⟨a + 1, by omega, by go_num, HF, rfl⟩
      · have e1 : zrB c = false := decide_eq_false (by omega)
        have e2 : nzB c = true := decide_eq_true ⟨h1, h2⟩
        have HF : Hid (numEnd zs p fin = nfrac zs fin (a + ds zs a)) := by rw [HN.out, HE.out, e1, e2]; rfl
        have q1 : (c == 48) = false := by simp; omega
        have D := DG.out a han
        have hdl := ds_le zs a
        have hzn := HZ.out
        have hdn : a + ds zs a ≤ n := by omega
        clear HE e1 e2 hdl hzn
        generalize ds zs a = d at *
        go_wp2_with (go_at_call 25; refine D.mono ?_; rintro e w' ⟨rfl, rfl⟩)
        go_meet
        case rel => exact ⟨a + d, by omega, by go_num, HF, rfl⟩
      · have e1 : zrB c = false := decide_eq_false (by omega)
        have e2 : nzB c = false := decide_eq_false (by omega)
        have HF : Hid (numEnd zs p fin = (a, 2)) := by rw [HN.out, HE.out, e1, e2]; rfl
        have q1 : (c == 48) = false := by simp; omega
        clear HE e1 e2
        go_wp2_with fail
        go_ret2
        exact ⟨ret2 HF.out rfl rfl, rfl⟩
      · have e1 : zrB c = false := decide_eq_false (by omega)
        have e2 : nzB c = false := decide_eq_false (by omega)
        have HF : Hid (numEnd zs p fin = (a, 2)) := by rw [HN.out, HE.out, e1, e2]; rfl
        have q1 : (c == 48) = false := by simp; omega
        clear HE e1 e2
        go_wp2_with fail
        go_ret2
        exact ⟨ret2 HF.out rfl rfl, rfl⟩
  case rest =>
  obtain ⟨a1, ha1, rfl, HN1, rfl⟩ := hcut
  clear HN han a DG
  go_upto_region 11 with fail
  go_cut [57] (fun b wx => b = .bool (atP zs a1) ∧ w = wx)
  case first =>
    by_cases h0 : a1 < n
    · have HA := hide (atP_at' HZ.out h0)
      have hcx := hT a1 (by omega)
      generalize zs.getD a1 0 = c at *
      go_wp2_with fail
      go_meet
      case rel => exact ⟨val_bool ((ptB_eq _).trans HA.out.symm), rfl⟩
    · have HA := hide (atP_no' HZ.out h0)
      go_wp2_with fail
      go_meet
      case rel => exact ⟨val_bool HA.out.symm, rfl⟩
  case rest =>
  obtain ⟨rfl, rfl⟩ := hcut
  go_upto_if 57 with fail
  go_cut [1, 8] (fun i _ wx => ∃ a2 : Nat, a2 ≤ n ∧ i = .int .i64 a2 ∧ Hid (numEnd zs p fin = nexp zs fin a2) ∧ w = wx)
  case first =>
    cases hP : atP zs a1 with
    | false =>
      have HF : Hid (numEnd zs p fin = nexp zs fin a1) := by rw [HN1.out]; unfold nfrac; rw [hP]; rfl
      clear HN1 hP
      go_wp2_with fail
      go_meet
      case rel => exact ⟨a1, ha1, rfl, HF, rfl⟩
    | true =>
      have hlt : a1 < n := by have := atP_lt hP; have := HZ.out; omega
      have HF : Hid (numEnd zs p fin = if (sde zs (a1 + 1)).2 = 0 then nexp zs fin (sde zs (a1 + 1)).1 else sde zs (a1 + 1)) := by rw [HN1.out]; unfold nfrac; rw [hP]; rfl
      have D := SD.out (a1 + 1) (by omega)
      have hq := sde_le zs (a1 + 1) (by omega)
      have hzn := HZ.out
      have hq1 : (sde zs (a1 + 1)).1 ≤ n := by omega
      clear HN1 hP hzn
      generalize sde zs (a1 + 1) = q at *
      obtain ⟨q1, q2⟩ := q
      dsimp only at HF D hq hq1
      by_cases h0 : q2 = 0
      · have HG : Hid (numEnd zs p fin = nexp zs fin q1) := by rw [HF.out, if_pos h0]; rfl
        subst h0
        clear HF
        go_wp2_with (go_at_call 26; refine D.mono ?_; rintro e w' ⟨rfl, rfl⟩)
        go_meet
        case rel => exact ⟨q1, hq1, rfl, HG, rfl⟩
      · have HG : Hid (numEnd zs p fin = (q1, q2)) := by rw [HF.out, if_neg h0]; rfl
        have hb : ((q2 : Int) != 0) = true := by simp; omega
        clear HF h0
        go_wp2_with (go_at_call 26; refine D.mono ?_; rintro e w' ⟨rfl, rfl⟩)
        go_ret2
        exact ⟨ret2 HG.out rfl rfl, rfl⟩
  case rest =>
  obtain ⟨a2, ha2, rfl, HN2, rfl⟩ := hcut
  clear HN1 ha1 a1
  go_upto_region 15 with fail
  go_cut [86] (fun b wx => b = .bool (atE zs a2) ∧ w = wx)
  case first =>
    by_cases h0 : a2 < n
    · have HA := hide (atE_at' HZ.out h0)
      have hcx := hT a2 (by omega)
      generalize zs.getD a2 0 = c at *
      go_wp2_with fail
      · go_meet
        case rel => exact ⟨val_bool ((expB_101 (by assumption)).trans HA.out.symm), rfl⟩
      · go_meet
        case rel => exact ⟨val_bool ((expB_eq _).trans HA.out.symm), rfl⟩
    · have HA := hide (atE_no' HZ.out h0)
      go_wp2_with fail
      go_meet
      case rel => exact ⟨val_bool HA.out.symm, rfl⟩
  case rest =>
  obtain ⟨rfl, rfl⟩ := hcut
  go_upto_if 86 with fail
  go_cut [1, 8] (fun i _ wx => ∃ a3 : Nat, a3 ≤ n ∧ i = .int .i64 a3 ∧ Hid (numEnd zs p fin = nfin zs fin a3) ∧ w = wx)
  case first =>
    cases hE : atE zs a2 with
    | false =>
      have HF : Hid (numEnd zs p fin = nfin zs fin a2) := by rw [HN2.out]; unfold nexp; rw [hE]; rfl
      clear HN2 hE
      go_wp2_with fail
      go_meet
      case rel => exact ⟨a2, ha2, rfl, HF, rfl⟩
    | true =>
      have hlt : a2 < n := by have := atE_lt hE; have := HZ.out; omega
      have HF : Hid (numEnd zs p fin = if (sde zs (sg zs (a2 + 1))).2 = 0 then nfin zs fin (sde zs (sg zs (a2 + 1))).1 else sde zs (sg zs (a2 + 1))) := by rw [HN2.out]; unfold nexp; rw [hE]; rfl
      clear HN2 hE
      obtain ⟨t', ht'⟩ : ∃ t', t' = a2 + 1 := ⟨_, rfl⟩
      rw [← ht'] at HF
      have HT' := hide ht'
      clear ht'
      go_upto_region 16 with fail
      go_cut [1] (fun x wx => x = .int .i64 t' ∧ w = wx)
      case first =>
        go_wp2_with fail
        go_meet
        case rel => exact ⟨by rw [HT'.out]; go_num, rfl⟩
      case rest =>
      obtain ⟨rfl, rfl⟩ := hcut
      have ht2 : t' ≤ n := by have := HT'.out; omega
      clear HT'
      go_upto_region 17 with fail
      go_cut [106] (fun b wx => b = .bool (atS zs t') ∧ w = wx)
      case first =>
        by_cases h0 : t' < n
        · have HA := hide (atS_at' HZ.out h0)
          have hcx := hT t' (by omega)
          generalize zs.getD t' 0 = c at *
          go_wp2_with fail
          · go_meet
            case rel => exact ⟨val_bool ((sgnB_43 (by assumption)).trans HA.out.symm), rfl⟩
          · go_meet
            case rel => exact ⟨val_bool ((sgnB_eq _).trans HA.out.symm), rfl⟩
        · have HA := hide (atS_no' HZ.out h0)
          go_wp2_with fail
          go_meet
          case rel => exact ⟨val_bool HA.out.symm, rfl⟩
      case rest =>
      obtain ⟨rfl, rfl⟩ := hcut
      go_upto_if 106 with fail
      go_cut [1] (fun i wx => i = .int .i64 (sg zs t') ∧ w = wx)
      case first =>
        go_wp2_with fail
        · go_meet
          case rel => exact ⟨by rw [sg_yes' (by assumption)]; go_num, rfl⟩
        · go_meet
          case rel => exact ⟨by rw [sg_no' (by assumption)], rfl⟩
      case rest =>
      obtain ⟨rfl, rfl⟩ := hcut
      have hv := sg_le zs t' (by omega)
      have hzn := HZ.out
      have hvn : sg zs t' ≤ n := by omega
      have D := SD.out (sg zs t') hvn
      have hq := sde_le zs (sg zs t') hv
      have hq1 : (sde zs (sg zs t')).1 ≤ n := by omega
      clear hzn hv
      generalize sg zs t' = v at *
      generalize sde zs v = q at *
      obtain ⟨q1, q2⟩ := q
      dsimp only at HF D hq hq1
      by_cases h0 : q2 = 0
      · have HG : Hid (numEnd zs p fin = nfin zs fin q1) := by rw [HF.out, if_pos h0]; rfl
        subst h0
        clear HF
        go_wp2_with (go_at_call 26; refine D.mono ?_; rintro e w' ⟨rfl, rfl⟩)
        go_meet
        case rel => exact ⟨q1, hq1, rfl, HG, rfl⟩
      · have HG : Hid (numEnd zs p fin = (q1, q2)) := by rw [HF.out, if_neg h0]; rfl
        have hb : ((q2 : Int) != 0) = true := by simp; omega
        clear HF h0
        go_wp2_with (go_at_call 26; refine D.mono ?_; rintro e w' ⟨rfl, rfl⟩)
        go_ret2
        exact ⟨ret2 HG.out rfl rfl, rfl⟩
  case rest =>
  obtain ⟨a3, ha3, rfl, HN3, rfl⟩ := hcut
  clear HN2 ha2 a2 SD
  have HE : Hid (numEnd zs p fin = if decide (a3 = n) && !fin then (a3, 1) else (a3, 0)) := by rw [HN3.out, ← HZ.out]; rfl
  clear HN3
  by_cases h0 : a3 = n
  · cases fin with
    | false =>
      have HF : Hid (numEnd zs p false = (a3, 1)) := hide (by rw [HE.out]; simp [h0])
      have hb : ((a3 : Int) == (n : Int)) = true := by simp; omega
      clear HE h0
      go_wp2_with fail
      go_ret2
      exact ⟨ret2 HF.out rfl rfl, rfl⟩
    | true =>
      have HF : Hid (numEnd zs p true = (a3, 0)) := hide (by rw [HE.out]; simp [h0])
      have hb : ((a3 : Int) == (n : Int)) = true := by simp; omega
      clear HE h0
      go_wp2_with fail
      go_ret2
      exact ⟨ret2 HF.out rfl rfl, rfl⟩
  · have HF : Hid (numEnd zs p fin = (a3, 0)) := hide (by rw [HE.out]; simp [h0])
    have hb : ((a3 : Int) == (n : Int)) = false := by simp; omega
    clear HE h0
    go_wp2_with fail
    go_ret2
    exact ⟨ret2 HF.out rfl rfl, rfl⟩

theorem zzNumEnd_any (b p n : Nat) (zs : List Int) (fin : Bool) (w : World) (hn : n ≤ 1048576) (hz : zs.length = n) (hp : p < n) (hT : Txt w b zs) :
    Calls Trym.prog 12 #[.slice (some ⟨b, 0, none⟩) n n, .int .i64 p, .bool fin] w fun e w' =>
      e = .returned (.tuple #[.int .i64 (numEnd zs p fin).1, .int .u8 (numEnd zs p fin).2]) ∧ w = w' := by
  have H := numEnd_any b p n zs fin w hn hz hp hT
  clear hz
  go_enter Trym.func12, Trym.ntmps12
  go_wp2_with (go_at_call 20; refine H.mono ?_; rintro e w' ⟨rfl, rfl⟩)
  go_ret2
  exact ⟨rfl, rfl⟩

end Go.Proofs.Qxb6603780aMods
