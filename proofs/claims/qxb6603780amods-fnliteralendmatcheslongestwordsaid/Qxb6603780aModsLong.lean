/-
  THE WALK of literalByLongestMatch (17).
-/
import Derived.Test.Qxb6603780aModsLit
namespace Go.Proofs.Qxb6603780aMods
open Go.RowKit
set_option linter.unusedVariables false
set_option linter.unusedSimpArgs false

def wordB (j : Nat) : ByteArray := if j = 0 then ⟨#[116, 114, 117, 101]⟩ else if j = 1 then ⟨#[102, 97, 108, 115, 101]⟩ else ⟨#[110, 117, 108, 108]⟩

theorem wordB_size (j : Nat) : (wordB j).size ≤ 5 := by
  unfold wordB
  split
  · decide
  · split <;> decide

theorem wordB_any (j : Nat) (w : World) : Calls Trym.prog 23 #[.int .i64 j] w fun e w' => e = .returned (.string (wordB j)) ∧ w' = w := by
  refine (word_any (j : Int) w).mono fun e w' ⟨h1, h2⟩ => ⟨?_, h2⟩
  rw [h1]
  unfold wordB
  by_cases h : j = 0
  · simp [h]
  · by_cases h' : j = 1
    · simp [h']
    · rw [if_neg (by omega), if_neg (by omega), if_neg h, if_neg h']

def best (zs : List Int) (p : Nat) : Nat → Nat × Nat
  | 0 => (0, 4)
  | j + 1 => better (best zs p j) (cpl (zs.drop p) (wl (wordB j))) (wordB j).size

section Steps
variable {s : ByteArray} {zs : List Int} {p k i : Nat}
theorem best_up (hs : s = wordB i) (hk : cpl (zs.drop p) (wl s) = k) (h : ((best zs p i).1 : Int) < (k : Int)) : best zs p (i + 1) = (k, s.size) := by
  show better (best zs p i) _ _ = _
  subst hs
  rw [hk]
  unfold better
  rw [if_pos (by omega)]
theorem best_keep (hs : s = wordB i) (hk : cpl (zs.drop p) (wl s) = k) (h : (k : Int) ≤ ((best zs p i).1 : Int)) : best zs p (i + 1) = best zs p i := by
  show better (best zs p i) _ _ = _
  subst hs
  rw [hk]
  unfold better
  rw [if_neg (by omega)]
theorem best_le (zs : List Int) (p j : Nat) : (best zs p j).1 ≤ 5 := by
  induction j with
  | zero => simp [best]
  | succ j ih =>
    show (better _ _ _).1 ≤ 5
    unfold better
    split
    · have h1 := cpl_right (zs.drop p) (wl (wordB j))
      have h2 := wordB_size j
      rw [wl_len] at h1
      show cpl _ _ ≤ 5
      omega
    · exact ih
theorem ver_done {n p M L : Nat} (h : ((M : Int) == (L : Int)) = true) : verdict n p M L = (p + M, 0) := by
  simp at h
  unfold verdict
  rw [if_pos (by omega)]
theorem ver_more {n p M L : Nat} (h : ((M : Int) == (L : Int)) = false) (h2 : ((p : Int) + (M : Int) == (n : Int)) = true) : verdict n p M L = (p + M, 1) := by
  simp at h h2
  unfold verdict
  rw [if_neg (by omega), if_pos (by omega)]
theorem ver_at {n p M : Nat} (h2 : ((p : Int) + (M : Int) == (n : Int)) = true) : (n : Int) = ((p + M : Nat) : Int) := by
  simp at h2
  omega
theorem ver_wrong {n p M L : Nat} (h : ((M : Int) == (L : Int)) = false) (h2 : ((p : Int) + (M : Int) == (n : Int)) = false) : verdict n p M L = (p + M, 2) := by
  simp at h h2
  unfold verdict
  rw [if_neg (by omega), if_neg (by omega)]
end Steps

set_option maxHeartbeats 400000 in
theorem long_any (b p n : Nat) (zs : List Int) (w : World) (hn : n ≤ 1048576) (hz : zs.length = n) (hp : p < n) (hT : Txt w b zs) :
    Calls Trym.prog 17 #[.slice (some ⟨b, 0, none⟩) n n, .int .i64 p] w fun e w' => 
      e = .returned (.tuple #[.int .i64 (verdict n p (best zs p 3).1 (best zs p 3).2).1, .int .u8 (verdict n p (best zs p 3).1 (best zs p 3).2).2]) ∧ ∃ n, w' = w.drewN n := by
  have HZ := hide hz
  have hzl : n ≤ zs.length := by omega
  clear hz
  go_enter Trym.func17, Trym.ntmps17
  go_wp2
  go_loopw [6, 7, 8] (fun bm bl j wr => ∃ i : Nat, i ≤ 3 ∧ j = .int .i64 i ∧ bm = .int .i64 (best zs p i).1 ∧ bl = .int .i64 (best zs p i).2 ∧ ∃ nd, wr = w.drewN nd) (fun _ _ j _ => 3 - (intOf j).toNat)
  case atStart => exact ⟨0, by omega, rfl, rfl, rfl, 0, rfl⟩
  case round =>
    obtain ⟨i, hi, rfl, rfl, rfl, nd, rfl⟩ := hrel
    by_cases hi3 : i < 3
    · have hws := wordB_size i
      obtain ⟨s, hs⟩ : ∃ s, s = wordB i := ⟨_, rfl⟩
      rw [← hs] at hws
      have HS := hide hs
      clear hs
      go_wp2_with (go_at_call 23; refine (wordB_any i _).mono ?_; rintro e w' ⟨rfl, rfl⟩; rw [← HS.out])
      go_loopw [10] (fun m wr => ∃ k : Nat, k ≤ cpl (zs.drop p) (wl s) ∧ m = .int .i64 k ∧ ∃ nd, wr = w.drewN nd) (fun m _ => 5 - (intOf m).toNat)
      case atStart => exact ⟨0, Nat.zero_le _, rfl, _, rfl⟩
      case round =>
        obtain ⟨k, hk, rfl, nd', rfl⟩ := hrel
        have hk5 : k ≤ 5 := by have := cpl_right (zs.drop p) (wl s); rw [wl_len] at this; omega
        have hkn : p + k ≤ n := by have := cpl_left (zs.drop p) (wl s); simp [HZ.out] at this; omega
        by_cases hlt : k < cpl (zs.drop p) (wl s)
        · have hks : k < s.size := by have := cpl_right (zs.drop p) (wl s); rw [wl_len] at this; omega
          have hpk : p + k < n := by have := cpl_left (zs.drop p) (wl s); simp [HZ.out] at this; omega
          have hcx : w.cell? ⟨b, p + k, none⟩ = some (.int .u8 ((s[k]'hks).toNat : Int)) := by
            rw [hT (p + k) (by omega), ← getD_drop, cpl_same _ _ _ hlt, wl_at _ _ hks]
          have hpi : (p : Int) + (k : Int) < (n : Int) := by omega
          go_wp2
          go_quiet (fail)
          go_wp2
          go_roundw
          case rel => exact ⟨k + 1, hlt, by go_num, _, rfl⟩
          case measure => simp [intOf]; omega
        · have hkc : cpl (zs.drop p) (wl s) = k := by omega
          have HK := hide hkc
          clear hkc hlt hk
          by_cases hks : k < s.size
          · by_cases hpk : p + k < n
            · have hpi : (p : Int) + (k : Int) < (n : Int) := by omega
              obtain ⟨d, hd⟩ : ∃ d, d = zs.getD (p + k) 0 := ⟨_, rfl⟩
              have hcx : w.cell? ⟨b, p + k, none⟩ = some (.int .u8 d) := by rw [hT (p + k) (by omega), hd]
              have hne : (d == ((s[k]'hks).toNat : Int)) = false := by
                have := cpl_stop (zs.drop p) (wl s) (by simp [HZ.out, HK.out]; omega) (by rw [wl_len, HK.out]; omega)
                rw [HK.out, getD_drop, ← hd, wl_at _ _ hks] at this
                simpa using this
              clear hd
              go_wp2
              go_quiet (fail)
              go_wp2
              all_goals first
                | (have hb := best_up HS.out HK.out (by omega)
                   go_roundw
                   case rel => exact ⟨i + 1, by omega, by go_num, by rw [hb], by rw [hb], _, rfl⟩
                   case measure => simp [intOf]; omega)
                | (have hb := best_keep HS.out HK.out (by omega)
                   go_roundw
                   case rel => exact ⟨i + 1, by omega, by go_num, by rw [hb], by rw [hb], _, rfl⟩
                   case measure => simp [intOf]; omega)
            · have hpi : decide ((p : Int) + (k : Int) < (n : Int)) = false := decide_eq_false (by omega)
              go_wp2
              go_quiet (fail)
              go_wp2
              all_goals first
                | (have hb := best_up HS.out HK.out (by omega)
                   go_roundw
                   case rel => exact ⟨i + 1, by omega, by go_num, by rw [hb], by rw [hb], _, rfl⟩
                   case measure => simp [intOf]; omega)
                | (have hb := best_keep HS.out HK.out (by omega)
                   go_roundw
                   case rel => exact ⟨i + 1, by omega, by go_num, by rw [hb], by rw [hb], _, rfl⟩
                   case measure => simp [intOf]; omega)
          · have hki : decide ((k : Int) < (s.size : Int)) = false := decide_eq_false (by omega)
            go_wp2
            go_quiet (fail)
            go_wp2
            all_goals first
              | (have hb := best_up HS.out HK.out (by omega)
                 go_roundw
                 case rel => exact ⟨i + 1, by omega, by go_num, by rw [hb], by rw [hb], _, rfl⟩
                 case measure => simp [intOf]; omega)
              | (have hb := best_keep HS.out HK.out (by omega)
                 go_roundw
                 case rel => exact ⟨i + 1, by omega, by go_num, by rw [hb], by rw [hb], _, rfl⟩
                 case measure => simp [intOf]; omega)
    · obtain rfl : i = 3 := by omega
      have hb5 := best_le zs p 3
      go_wp2
      · go_ret2
        exact ⟨ret2 (ver_done (by assumption)) (by simp) rfl, _, rfl⟩
      · go_ret2
        exact ⟨ret2 (ver_more (by assumption) (by assumption)) (ver_at (by assumption)) rfl, _, rfl⟩
      · go_ret2
        exact ⟨ret2 (ver_wrong (by assumption) (by assumption)) (by simp) rfl, _, rfl⟩

end Go.Proofs.Qxb6603780aMods
