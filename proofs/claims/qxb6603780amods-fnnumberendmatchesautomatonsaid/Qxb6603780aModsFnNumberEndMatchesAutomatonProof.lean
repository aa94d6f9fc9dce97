/-
  PROOF OF 'Rows.FnNumberEndMatchesAutomatonSaid'. The frame is the seat's shell (written by the kit's program); the walk is mine.
-/
import Derived.Test.Qxb6603780aModsRows
import Derived.WalkKit
import Derived.ProofKit
import Derived.OpenShut
import Derived.ShutString
import Derived.ChangeOld
import Derived.Below
import Derived.Test.Qxb6603780aModsNumEnd
import Derived.Test.Qxb6603780aModsLawNum
namespace Go.Proofs.Qxb6603780aMods.fnNumberEndMatchesAutomaton
open Go.ChangeShapes Go.WideShapes Go.ChangeAt Go.RowKit
open Go.ChangeMaps (open_string shut_string)
set_option linter.unusedVariables false

theorem own : ownKnob Trym.prog.godebug = none := by kernel_rfl
theorem laidOut : laidOutB Trym.prog = true := by kernel_rfl

/-- WHAT THE WALK IS TOLD OF A SLICE OF INTEGERS THAT CAME IN: it is nil; or it leads to a row of 'cap' cells, the numbers 'zs' (the first 'len' are its elements, the rest its spare room), each fitting its kind. -/
def IsRow (k : IntKind) (w : World) (a : Option Addr) (len cap : Nat) (zs : List Int) : Prop :=
  (a = none ∧ len = 0 ∧ cap = 0 ∧ zs = []) ∨
  ∃ x, a = some x ∧ len ≤ cap ∧ cap ≤ maxLen ∧ zs.length = cap ∧ (∀ i, i < zs.length → w.cell? (x.add i) = some (.int k (zs.getD i 0))) ∧ ∀ n ∈ zs, (Lit.int k n).wf = true

/-! ### STEP 1: THE WALK -/
set_option maxHeartbeats 400000 in
theorem walk_in (b off len cap p : Nat) (zs : List Int) (fin : Bool) (w : World) (hl : len ≤ cap) (hm : len ≤ 1048576) (hz : zs.length = cap) (hp : p < len)
    (hc : ∀ i, i < zs.length → w.cell? ⟨b, off + i, none⟩ = some (.int .u8 (zs.getD i 0))) (hx : b < w.heap.size) :
    Calls Trym.prog 5 #[.slice (some ⟨b, off, none⟩) len cap, .int .i64 p, .bool fin] w fun e w' => e = .returned (.bool true) ∧ Below w.heap.size w w' := by
  have hzt : (zs.take len).length = len := by simp; omega
  have HL := hide (num_law (zs.take len) fin p (by omega))
  have HT := hide hzt
  clear hzt
  have C := copy_any b off len cap zs w hl hm hz hc hx
  clear hz
  have hmm : len ≤ maxLen := by unfold maxLen; omega
  have hd : decide (len ≤ 1048576) = true := decide_eq_true hm
  go_enter Trym.func5, Trym.ntmps5
  go_wp2_with (first | (go_at_call 13; refine (zz13_any _ _ _ _ _ _ hmm).mono ?_; rintro e w' ⟨rfl, rfl⟩) | (go_at_call 11; refine C.mono ?_; rintro e w1 ⟨rfl, hT1, hb1⟩) | (go_at_call 12; refine (zzNumEnd_any _ p len (zs.take len) fin w1 hm HT.out hp hT1).mono ?_; rintro e w2 ⟨rfl, rfl⟩; rw [HL.out]) | (go_at_call 14; refine (nauto_any _ p len (zs.take len) fin w1 hm HT.out hp hT1).mono ?_; rintro e w3 ⟨rfl, rfl⟩))
  go_ret
  exact ⟨rfl, hb1⟩

theorem walk (a0 : Option Addr) (len0 cap0 : Nat) (z0 : List Int) (a1 : Int) (a2 : Bool) (w : World) (w0 : IsRow .u8 w a0 len0 cap0 z0) (w1 : (Lit.int .i64 a1).wf = true) :
    Calls Trym.prog 5 #[.slice a0 len0 cap0, .int .i64 a1, .bool a2] w fun e w' => e = .returned (.bool true) ∧ Below w.heap.size w w' := by
  have hmx : len0 ≤ maxLen := by
    rcases w0 with ⟨_, h, _, _⟩ | ⟨x, _, h1, h2, _⟩
    · omega
    · omega
  by_cases hm : len0 ≤ 1048576
  · have hd : decide (len0 ≤ 1048576) = true := decide_eq_true hm
    have hmi : ¬ (1048576 : Int) < (len0 : Int) := by omega
    by_cases h0 : a1 < 0
    · clear w0 w1
      go_enter Trym.func5, Trym.ntmps5
      go_wp2_with (go_at_call 13; refine (zz13_any _ _ _ _ _ _ hmx).mono ?_; rintro e w' ⟨rfl, rfl⟩)
      go_ret
      exact ⟨rfl, Below.refl _ _⟩
    · by_cases h1 : (len0 : Int) ≤ a1
      · clear w0 w1
        go_enter Trym.func5, Trym.ntmps5
        go_wp2_with (go_at_call 13; refine (zz13_any _ _ _ _ _ _ hmx).mono ?_; rintro e w' ⟨rfl, rfl⟩)
        go_ret
        exact ⟨rfl, Below.refl _ _⟩
      · obtain ⟨p, rfl⟩ : ∃ p : Nat, a1 = (p : Int) := ⟨a1.toNat, by omega⟩
        rcases w0 with ⟨_, h, _, _⟩ | ⟨x, rfl, h2, h3, h4, h5, h6⟩
        · omega
        · obtain ⟨b, off, rfl, hb, hc⟩ := row_plain h5 (by omega)
          exact walk_in b off len0 cap0 p z0 a2 w h2 hm h4 (by omega) hc hb
  · have hd : decide (len0 ≤ 1048576) = false := decide_eq_false hm
    clear w0 w1
    go_enter Trym.func5, Trym.ntmps5
    go_wp2_with (go_at_call 13; refine (zz13_any _ _ _ _ _ _ hmx).mono ?_; rintro e w' ⟨rfl, rfl⟩)
    go_ret
    exact ⟨rfl, Below.refl _ _⟩

/-! ### THE ROW's STEP: WRITTEN OUT: LEAVE IT -/
set_option maxRecDepth 100000 in
theorem lifted (os : Os) (started : os.Started) (H : Type) (enc : TypeId × Value → H) :
    ReturnsInHanded {} Trym.checked os 5 .any (Rows.fnNumberEndMatchesAutomatonSpec.pre6 enc Trym.prog Trym.f5 Rows.fnNumberEndMatchesAutomatonRow.domain false) (Rows.fnNumberEndMatchesAutomatonSpec.post enc Trym.prog Trym.f5 false true false false) := by
  refine returnsInHanded_of_change (C := Trym.checked) own started (by kernel_rfl) Trym.func5
    (ChangeSpec.witness6 (enc := enc) (C := Trym.checked) false ⟨#[], #[.slice none 0 0, .int .i64 0, .bool false], []⟩ 8 (by kernel_rfl) (by kernel_rfl) (by kernel_rfl) (by kernel_rfl)) ?_
  intro W base args ds gs before hval0 hW hcnd _
  have hval : ∀ (j : Nat) t v, Trym.f5.params[j]? = some t → args[j]? = some v → Value.okWide Trym.prog W .any base t v := hval0
  have hW' := hW
  obtain ⟨p, q, hA0, hV, rfl, hfz, hnd⟩ := hW
  have hA : DataW.TrodAll enc Trym.prog W 0 (fun _ => true) true Trym.f5.params.toList args.toList ds p := hA0
  rw [Trym.params5] at hA hval
  obtain ⟨v0, vs0, d0, ds0, p0, q0, hargs, rfl, rfl, h0, r0⟩ := trodAll_cons hA
  obtain ⟨v1, vs1, d1, ds1, p1, q1, rfl, rfl, rfl, h1, r1⟩ := trodAll_cons r0
  obtain ⟨v2, vs2, d2, ds2, p2, q2, rfl, rfl, rfl, h2, r2⟩ := trodAll_cons r1
  obtain ⟨rfl, rfl, rfl⟩ := trodAll_nil r2
  obtain rfl : args = #[v0, v1, v2] := by cases args; simp_all
  obtain ⟨rfl, rfl⟩ := trodVars_none hV
  obtain ⟨a0, len0, cap0, rfl⟩ := okWide_slice Trym.underlying23 (hval 0 23 v0 rfl rfl)
  have k0 := h0
  have lt0 : ∀ x ∈ p0, x.block < W.heap.size := by obtain ⟨m, hm⟩ := k0; exact DataW.trod_lt m _ _ _ hm
  obtain ⟨z0, w0⟩ : ∃ zs, IsRow .u8 W a0 len0 cap0 zs := by
    obtain ⟨fuel, hf⟩ := h0
    rcases open_ints Trym.underlying23 Trym.underlying5 (by kernel_rfl) hf with ⟨hcs, _⟩ | ⟨x, l, c, zs, hcs, _, hl, hm, hz, _, hcell, hwz⟩
    · simp [Value.cells] at hcs
      obtain ⟨rfl, rfl, rfl⟩ := hcs
      exact ⟨[], .inl ⟨rfl, rfl, rfl, rfl⟩⟩
    · simp [Value.cells] at hcs
      obtain ⟨rfl, rfl, rfl⟩ := hcs
      exact ⟨zs, .inr ⟨_, rfl, hl, hm, by simpa using hz, hcell, hwz⟩⟩
  obtain ⟨a1, rfl, rfl, rfl, w1⟩ := open_int Trym.underlying3 (hval 1 3 v1 rfl rfl) h1
  obtain ⟨a2, rfl, rfl, rfl⟩ := open_bool Trym.underlying4 (hval 2 4 v2 rfl rfl) h2
  clear hA0 hval0
  refine (walk a0 len0 cap0 z0 a1 a2 W w0 w1).mono fun e W' ⟨he, bel⟩ => ?_
  subst he
  exact ⟨_, rfl, _, _, _, [], _, [], hW', trodAll_mk1 (shut_bool Trym.underlying4 _), (trodAll_cons_mk (Below.trod laidOut (by kernel_rfl) (of_decide_eq_true (by kernel_rfl)) k0 bel lt0) (trodAll_cons_mk (shut_int Trym.underlying3 w1) (trodAll_cons_mk (shut_bool Trym.underlying4 _) trodAll_mk0))), rfl, bel.frame _, fun h => by cases h⟩

theorem over : Rows.fnNumberEndMatchesAutomatonRow.holds Trym.pinned (OpenSpec.ofChange Rows.fnNumberEndMatchesAutomatonSpec) :=
  OpenClaim.holds_of_wide 5 Trym.f5 rfl rfl rfl rfl rfl rfl rfl ⟨rfl, rfl, rfl, rfl, rfl⟩ rfl rfl rfl rfl rfl (by kernel_rfl) Trym.func5 (by kernel_rfl)
    (of_decide_eq_true (by kernel_rfl)) (by unfold Func.isWrapper; first | (rw [if_pos (by decide +kernel)]; kernel_rfl) | (rw [if_neg (by decide +kernel)]; exact ⟨rfl, rfl⟩))
    (fun os started H enc _ => lifted os started H enc)

/-- ████ THE STATEMENT ████ -/
theorem proved : Rows.FnNumberEndMatchesAutomatonSaid := over
end Go.Proofs.Qxb6603780aMods.fnNumberEndMatchesAutomaton
