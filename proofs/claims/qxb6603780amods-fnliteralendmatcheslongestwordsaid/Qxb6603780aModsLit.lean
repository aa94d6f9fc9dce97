/-
  THE WALKS of 'FnLiteralEndMatchesLongestWord': literalEnd (22), ZZliteralEnd (16), literalByLongestMatch (17).
-/
import Derived.Test.Qxb6603780aModsBase
import Derived.Test.Qxb6603780aModsPlainLit
import Derived.Deep.QuietTactic
import Derived.BigQuiet
namespace Go.Proofs.Qxb6603780aMods
open Go.RowKit
set_option linter.unusedVariables false
set_option linter.unusedSimpArgs false

section Steps
variable {s t : ByteArray} {zs : List Int} {p k n : Nat}

theorem lit_more (e : s = t) (hz : zs.length = n) (hk : k ≤ cpl (zs.drop p) (wl s)) (hp : p + k = n) (h : (k : Int) < (t.size : Int)) :
    verdict n p (cpl (zs.drop p) (wl s)) s.size = (p + k, 1) := by
  subst e
  have h1 := cpl_left (zs.drop p) (wl s)
  simp [hz] at h1
  have h2 : cpl (zs.drop p) (wl s) = k := by omega
  unfold verdict
  rw [h2, if_neg (by omega), if_pos hp]

theorem lit_done (e : s = t) (hk : k ≤ cpl (zs.drop p) (wl s)) (h : (t.size : Int) ≤ (k : Int)) :
    verdict n p (cpl (zs.drop p) (wl s)) s.size = (p + t.size, 0) := by
  subst e
  have h1 := cpl_right (zs.drop p) (wl s)
  rw [wl_len] at h1
  have h2 : cpl (zs.drop p) (wl s) = s.size := by omega
  unfold verdict
  rw [h2, if_pos rfl]

theorem lit_wrong (e : s = t) (hz : zs.length = n) (hk : k ≤ cpl (zs.drop p) (wl s)) (hp : p + k < n) (hks : k < t.size) {c : Int} (hc : c = zs.getD (p + k) 0)
    (h : (c != ((t[k]'hks).toNat : Int)) = true) : verdict n p (cpl (zs.drop p) (wl s)) s.size = (p + k, 2) := by
  subst e
  have h2 : cpl (zs.drop p) (wl s) = k := by
    rcases Nat.lt_or_ge k (cpl (zs.drop p) (wl s)) with hlt | hge
    · have := cpl_same _ _ _ hlt
      rw [getD_drop, wl_at _ _ hks, ← hc] at this
      simp [this] at h
    · omega
  unfold verdict
  rw [h2, if_neg (by omega), if_neg (by omega)]

theorem lit_next (e : s = t) (hz : zs.length = n) (hk : k ≤ cpl (zs.drop p) (wl s)) (hp : p + k < n) (hks : k < t.size) {c : Int} (hc : c = zs.getD (p + k) 0)
    (h : (c != ((t[k]'hks).toNat : Int)) = false) : k + 1 ≤ cpl (zs.drop p) (wl s) := by
  subst e
  rcases Nat.lt_or_ge k (cpl (zs.drop p) (wl s)) with hlt | hge
  · exact hlt
  · have h2 : cpl (zs.drop p) (wl s) = k := by omega
    have := cpl_stop (zs.drop p) (wl s) (by simp [hz]; omega) (by rw [wl_len]; omega)
    rw [h2, getD_drop, wl_at _ _ hks, ← hc] at this
    simp at h
    exact absurd h this
end Steps

set_option maxHeartbeats 400000 in
theorem litEnd_any (s : ByteArray) (b p n : Nat) (zs : List Int) (w : World) (hn : n ≤ 1048576) (hz : zs.length = n) (hp : p < n) (hT : Txt w b zs) (c : Int) (hc : zs.getD p 0 = c)
    (hs : (c = 116 ∧ s = ⟨#[116, 114, 117, 101]⟩) ∨ (c = 102 ∧ s = ⟨#[102, 97, 108, 115, 101]⟩) ∨ (c ≠ 116 ∧ c ≠ 102 ∧ s = ⟨#[110, 117, 108, 108]⟩)) :
    Calls Trym.prog 22 #[.slice (some ⟨b, 0, none⟩) n n, .int .i64 p] w fun e w' => 
      e = .returned (.tuple #[.int .i64 (verdict n p (cpl (zs.drop p) (wl s)) s.size).1, .int .u8 (verdict n p (cpl (zs.drop p) (wl s)) s.size).2]) ∧ ∃ n, w' = w.drewN n := by
  have hc0 : w.cell? ⟨b, p, none⟩ = some (.int .u8 c) := by rw [hT p (by omega), hc]
  have hs5 : s.size ≤ 5 := by rcases hs with ⟨_, rfl⟩ | ⟨_, rfl⟩ | ⟨_, _, rfl⟩ <;> decide
  have HC : Hid (zs.getD p 0 = c) := hc
  clear hc
  have HZ : Hid (zs.length = n) := hz
  have hzl : n ≤ zs.length := by omega
  clear hz
  rcases hs with ⟨rfl, hs⟩ | ⟨rfl, hs⟩ | ⟨h1, h2, hs⟩
  all_goals
    have HS := hide hs
    clear hs
    go_enter Trym.func22, Trym.ntmps22
    go_wp2
    go_loopw [18] (fun i wr => ∃ k : Nat, k ≤ cpl (zs.drop p) (wl s) ∧ i = .int .i64 k ∧ ∃ n, wr = w.drewN n) (fun i _ => 5 - (intOf i).toNat)
    case atStart => exact ⟨0, Nat.zero_le _, rfl, 0, rfl⟩
    case round =>
      obtain ⟨k, hk, rfl, nd, rfl⟩ := hrel
      have hk5 : k ≤ 5 := by have := cpl_right (zs.drop p) (wl s); rw [wl_len] at this; omega
      have hkn : p + k ≤ n := by have := cpl_left (zs.drop p) (wl s); simp [HZ.out] at this; omega
      by_cases hpk : p + k = n
      · have HP := hide hpk
        clear hpk
        have hpk : ((p : Int) + (k : Int) == (n : Int)) = true := by have := HP.out; simp; omega
        go_wp2
        · go_ret2
          exact ⟨ret2 (lit_more HS.out HZ.out hk HP.out (by assumption)) (by simp) rfl, _, rfl⟩
        · go_ret2
          exact ⟨ret2 (lit_done HS.out hk (by assumption)) (by simp; rfl) rfl, _, rfl⟩
      · have hpk' : p + k < n := by omega
        have hcx : w.cell? ⟨b, p + k, none⟩ = some (.int .u8 (zs.getD (p + k) 0)) := hT (p + k) (by omega)
        obtain ⟨d, hd⟩ : ∃ d, d = zs.getD (p + k) 0 := ⟨_, rfl⟩
        rw [← hd] at hcx
        have HD := hide hd
        clear hd
        go_wp2
        · go_region
          all_goals go_wp2
          · go_ret2
            exact ⟨ret2 (lit_wrong HS.out HZ.out hk hpk' _ HD.out (by assumption)) (by simp) rfl, _, rfl⟩
          · have hn1 := lit_next HS.out HZ.out hk hpk' _ HD.out (by assumption)
            have hk6 := cpl_right (zs.drop p) (wl s)
            rw [wl_len] at hk6
            go_roundw
            case rel => exact ⟨k + 1, hn1, by go_num, _, rfl⟩
            case measure => simp [intOf]; omega
        · go_ret2
          exact ⟨ret2 (lit_done HS.out hk (by assumption)) (by simp; rfl) rfl, _, rfl⟩

set_option maxHeartbeats 400000 in
theorem zzLitEnd_any (s : ByteArray) (b p n : Nat) (zs : List Int) (w : World) (hn : n ≤ 1048576) (hz : zs.length = n) (hp : p < n) (hT : Txt w b zs) (c : Int) (hc : zs.getD p 0 = c)
    (hs : (c = 116 ∧ s = ⟨#[116, 114, 117, 101]⟩) ∨ (c = 102 ∧ s = ⟨#[102, 97, 108, 115, 101]⟩) ∨ (c ≠ 116 ∧ c ≠ 102 ∧ s = ⟨#[110, 117, 108, 108]⟩)) :
    Calls Trym.prog 16 #[.slice (some ⟨b, 0, none⟩) n n, .int .i64 p] w fun e w' => 
      e = .returned (.tuple #[.int .i64 (verdict n p (cpl (zs.drop p) (wl s)) s.size).1, .int .u8 (verdict n p (cpl (zs.drop p) (wl s)) s.size).2]) ∧ ∃ n, w' = w.drewN n := by
  have H := litEnd_any s b p n zs w hn hz hp hT c hc hs
  clear hs hc hz
  go_enter Trym.func16, Trym.ntmps16
  go_wp2_with (go_at_call 22; refine H.mono ?_; rintro e w' ⟨rfl, nq, rfl⟩)
  go_ret2
  exact ⟨rfl, _, rfl⟩

end Go.Proofs.Qxb6603780aMods
