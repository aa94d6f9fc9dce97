/-
  THE WALK of FnSplitByPathGroupsAreFilters (3) at an empty list, nil or not.
-/
import Derived.Test.Qxb6605173aModsChk
namespace Go.Proofs.Qxb6605173aMods
open Go.RowKit Go.Maps
set_option linter.unusedVariables false
set_option linter.unusedSimpArgs false

set_option maxRecDepth 100000 in
set_option maxHeartbeats 1000000 in
theorem zz6_zero (a : Option Addr) (cap : Nat) (w : World) : Calls Trym.prog 6 #[.slice a 0 cap] w fun e w' => IsB e ∧ w = w' := by
  go_enter Trym.func6, Trym.ntmps6
  go_wp2
  go_loop [4] (fun i => i = .int .i64 0) (fun _ => 0)
  case atStart => rfl
  case round =>
    obtain rfl := hrel
    go_wp2
    go_ret
    exact ⟨⟨_, rfl⟩, rfl⟩

set_option maxRecDepth 100000 in
set_option maxHeartbeats 1000000 in
theorem clone_zero (a : Option Addr) (cap : Nat) (w : World) : Calls Trym.prog 7 #[.slice a 0 cap] w fun e w' => (∃ a', e = .returned (.slice a' 0 0)) ∧ Below w.heap.size w w' := by
  obtain ⟨i0, hi, hz0, hz1, hz2⟩ := info_parts Trym.info27
  have HB1 : Hid (i0.bytes * 0 ≤ 281474976710656) := hide (by omega)
  have HM1 : Hid (0 ≤ maxLen) := hide (Nat.zero_le _)
  have hnil := fun (w : World) (a : Option Addr) (l c : Nat) => Lib.run_eql_slice_nil (P := Trym.prog) w 22 27 a l c 0 0 Trym.underlying22
  cases a with
  | none =>
    go_enter Trym.func7, Trym.ntmps7
    go_wp2
    go_ret
    exact ⟨⟨_, rfl⟩, Below.refl _ _⟩
  | some x =>
    go_enter Trym.func7, Trym.ntmps7
    go_wp2_with (refine wpList_make_full _ rfl (.tmp 9) (.tmp 9) 22 rfl w.heap.size 27 i0 _ 3 Trym.underlying22 hi hz0 hz1 .i64 .i64 _ _ 0 rfl rfl rfl rfl HB1.out HM1.out (Nat.le_refl _) ?_)
    intro w1 hown hgr
    have hb1 : Below w.heap.size w w1 := (Below.refl _ _).grown hgr (Nat.le_refl _) (by intro k h; cases h)
    clear hown hgr hnil
    go_wp2
    go_loop [4] (fun i => i = .int .i64 0) (fun _ => 0)
    case atStart => rfl
    case round =>
      obtain rfl := hrel
      go_wp2
      go_ret
      exact ⟨⟨_, rfl⟩, hb1⟩

set_option maxRecDepth 100000 in
set_option maxHeartbeats 4000000 in
theorem main_zero (a : Option Addr) (cap : Nat) (w : World) : Calls Trym.prog 3 #[.slice a 0 cap] w fun e w' => e = .returned (.bool true) ∧ Below w.heap.size w w' := by
  have G := zz6_zero a cap w
  have CL := clone_zero a cap w
  obtain ⟨i0, hi, hz0, hz1, hz2⟩ := info_parts Trym.info30
  have HB1 : Hid (i0.bytes * 0 ≤ 281474976710656) := hide (by omega)
  have HM1 : Hid (0 ≤ maxLen) := hide (Nat.zero_le _)
  have hmn := fun (w : World) (r : Option Nat) => run_eql_map_nil (P := Trym.prog) w 31 9 29 r Trym.underlying31
  go_enter Trym.func3, Trym.ntmps3
  go_wp2_with fail
  refine G.mono ?_
  rintro e w' ⟨⟨x, rfl⟩, rfl⟩
  cases x
  · go_wp2
    go_ret
    exact ⟨rfl, Below.refl _ _⟩
  · go_wp2
    go_loop [4] (fun i => i = .int .i64 0) (fun _ => 0)
    case atStart => rfl
    case round =>
    obtain rfl := hrel
    go_wp2_with (first | (go_at_call 7; refine CL.mono ?_; rintro e w3 ⟨⟨a', rfl⟩, hB1⟩) | (refine wpList_make_full _ rfl (.tmp 99) (.tmp 99) 29 rfl _ 30 i0 _ 3 Trym.underlying29 hi hz0 hz1 .i64 .i64 _ _ 0 rfl rfl rfl rfl HB1.out HM1.out (Nat.le_refl _) ?_))
    intro w4 hown4 hgr4
    have hb4 : Below w.heap.size w w4 := hB1.grown hgr4 hB1.size (by intro k h; cases h)
    obtain ⟨F4, ht4⟩ := tab_of_made3 hown4
    have hS : ∀ R, SRow w4 w3.heap.size 0 0 R := fun R => ⟨ht4.lt, fun i h => absurd h (by omega), fun i h => absurd h (by omega), fun i h => absurd h (by omega), fun i h => absurd h (by omega)⟩
    have SP := hide (zzSplit_any w3.heap.size 0 (fun _ => ⟨⟨#[]⟩, none, 0, 0, fun _ => ⟨#[]⟩, 0⟩) w4 (by omega) (fun i h => absurd h (by omega)) (hS _))
    clear hown4 hgr4 CL G ht4 hS
    go_wp2
    go_loop [7] (fun i => i = .int .i64 0) (fun _ => 0)
    case atStart => rfl
    case round =>
    obtain rfl := hrel
    go_wp2_with (go_at_call 8; refine SP.out.mono ?_; rintro e w6 ⟨rfl, ⟨D, hI⟩, hB6⟩)
    have hbw : Below w.heap.size w w6 := hb4.trans (hB6.mono hb4.size)
    go_loop [10, 11] (fun c i => c = .int .i64 0 ∧ i = .int .i64 0) (fun _ _ => 0)
    case atStart => exact ⟨rfl, rfl⟩
    case round =>
    obtain ⟨rfl, rfl⟩ := hrel
    have hsz : Maps.size D = 0 := hI.size
    have hOwn := hI.own
    go_wp2_with (refine wpList_len_own _ rfl (.tmp 225) 31 rfl 9 29 Trym.underlying31 RV w4.heap.size 0 D rfl hOwn ?_; rw [hsz])
    go_ret
    exact ⟨rfl, hbw⟩

end Go.Proofs.Qxb6605173aMods
