/-
  PROOF OF 'Rows.FnLiteralEndMatchesLongestWordSaid'. The frame is the seat's shell (written by the kit's program); the walk is mine.
-/
import Derived.Test.Qxb6603780aModsRows
import Derived.WalkKit
import Derived.ProofKit
import Derived.OpenShut
import Derived.ShutString
import Derived.ChangeOld
import Derived.Below
import Derived.Test.Qxb6603780aModsLong
namespace Go.Proofs.Qxb6603780aMods.fnLiteralEndMatchesLongestWord
open Go.ChangeShapes Go.WideShapes Go.ChangeAt Go.RowKit
open Go.ChangeMaps (open_string shut_string)
set_option linter.unusedVariables false

theorem own : ownKnob Trym.prog.godebug = none := by kernel_rfl
theorem laidOut : laidOutB Trym.prog = true := by kernel_rfl

/-- WHAT THE WALK IS TOLD OF A SLICE OF INTEGERS THAT CAME IN: it is nil; or it leads to a row of 'cap' cells, the numbers 'zs' (the first 'len' are its elements, the rest its spare room), each fitting its kind. -/
def IsRow (k : IntKind) (w : World) (a : Option Addr) (len cap : Nat) (zs : List Int) : Prop :=
  (a = none ∧ len = 0 ∧ cap = 0 ∧ zs = []) ∨
  ∃ x, a = some x ∧ len ≤ cap ∧ cap ≤ maxLen ∧ zs.length = cap ∧ (∀ i, i < zs.length → w.cell? (x.add i) = some (.int k (zs.getD i 0))) ∧ ∀ n ∈ zs, (Lit.int k n).wf = true

/-! ### STEP 1: THE PLAIN LAW -/
theorem best_is (zs : List Int) (p : Nat) (s : ByteArray) (c : Int) (hc : zs.getD p 0 = c)
    (hs : (c = 116 ∧ s = ⟨#[116, 114, 117, 101]⟩) ∨ (c = 102 ∧ s = ⟨#[102, 97, 108, 115, 101]⟩) ∨ (c ≠ 116 ∧ c ≠ 102 ∧ s = ⟨#[110, 117, 108, 108]⟩)) :
    (best zs p 3).1 = cpl (zs.drop p) (wl s) ∧ ((best zs p 3).1 = 0 ∧ (best zs p 3).2 = 4 ∧ s.size ≠ 0 ∨ (best zs p 3).2 = s.size) := by
  have h0 : (zs.drop p).getD 0 0 = c := by rw [getD_drop]; simpa using hc
  have z : ∀ j, (wl (wordB j)).getD 0 0 ≠ c → cpl (zs.drop p) (wl (wordB j)) = 0 := fun j h => cpl_zero _ _ (by rw [h0]; exact fun e => h e.symm)
  have g0 : (wl (wordB 0)).getD 0 0 = 116 := by decide
  have g1 : (wl (wordB 1)).getD 0 0 = 102 := by decide
  have g2 : (wl (wordB 2)).getD 0 0 = 110 := by decide
  have eb : best zs p 3 = better (better (better (0, 4) (cpl (zs.drop p) (wl (wordB 0))) (wordB 0).size) (cpl (zs.drop p) (wl (wordB 1))) (wordB 1).size) (cpl (zs.drop p) (wl (wordB 2))) (wordB 2).size := rfl
  have b0 : ∀ q L, better q 0 L = q := by intro q L; unfold better; rw [if_neg (by omega)]
  have b1 : ∀ m L, (better (0, 4) m L).1 = m ∧ ((better (0, 4) m L).1 = 0 ∧ (better (0, 4) m L).2 = 4 ∨ (better (0, 4) m L).2 = L) := by
    intro m L
    unfold better
    by_cases h : 0 < m
    · rw [if_pos h]; exact ⟨rfl, .inr rfl⟩
    · rw [if_neg h]; exact ⟨by show 0 = m; omega, .inl ⟨rfl, rfl⟩⟩
  rcases hs with ⟨e, e2⟩ | ⟨e, e2⟩ | ⟨e, e', e2⟩
  · have es : s = wordB 0 := e2
    rw [eb, z 1 (by rw [g1]; omega), z 2 (by rw [g2]; omega), b0, b0, es]
    have := b1 (cpl (zs.drop p) (wl (wordB 0))) (wordB 0).size
    rcases this.2 with h | h
    · exact ⟨this.1, .inl ⟨h.1, h.2, by decide⟩⟩
    · exact ⟨this.1, .inr h⟩
  · have es : s = wordB 1 := e2
    rw [eb, z 0 (by rw [g0]; omega), z 2 (by rw [g2]; omega), b0, b0, es]
    have := b1 (cpl (zs.drop p) (wl (wordB 1))) (wordB 1).size
    rcases this.2 with h | h
    · exact ⟨this.1, .inl ⟨h.1, h.2, by decide⟩⟩
    · exact ⟨this.1, .inr h⟩
  · have es : s = wordB 2 := e2
    rw [eb, z 0 (by rw [g0]; omega), z 1 (by rw [g1]; omega), b0, b0, es]
    have := b1 (cpl (zs.drop p) (wl (wordB 2))) (wordB 2).size
    rcases this.2 with h | h
    · exact ⟨this.1, .inl ⟨h.1, h.2, by decide⟩⟩
    · exact ⟨this.1, .inr h⟩

theorem ver_same (zs : List Int) (p n : Nat) (hp : p < n) (s : ByteArray) (c : Int) (hc : zs.getD p 0 = c)
    (hs : (c = 116 ∧ s = ⟨#[116, 114, 117, 101]⟩) ∨ (c = 102 ∧ s = ⟨#[102, 97, 108, 115, 101]⟩) ∨ (c ≠ 116 ∧ c ≠ 102 ∧ s = ⟨#[110, 117, 108, 108]⟩)) :
    verdict n p (best zs p 3).1 (best zs p 3).2 = verdict n p (cpl (zs.drop p) (wl s)) s.size := by
  obtain ⟨h1, h2⟩ := best_is zs p s c hc hs
  rcases h2 with ⟨h2, h3, h4⟩ | h2
  · rw [← h1, h2, h3]
    unfold verdict
    rw [if_neg (by omega), if_neg (by omega), if_neg (by omega)]
  · rw [h1, h2]

theorem word_of (c : Int) : ∃ s : ByteArray, (c = 116 ∧ s = ⟨#[116, 114, 117, 101]⟩) ∨ (c = 102 ∧ s = ⟨#[102, 97, 108, 115, 101]⟩) ∨ (c ≠ 116 ∧ c ≠ 102 ∧ s = ⟨#[110, 117, 108, 108]⟩) := by
  by_cases h : c = 116
  · exact ⟨_, .inl ⟨h, rfl⟩⟩
  · by_cases h' : c = 102
    · exact ⟨_, .inr (.inl ⟨h', rfl⟩)⟩
    · exact ⟨_, .inr (.inr ⟨h, h', rfl⟩)⟩

/-! ### STEP 2: THE WALK -/
set_option maxHeartbeats 400000 in
theorem walk_in (b off len cap p : Nat) (zs : List Int) (w : World) (hl : len ≤ cap) (hm : len ≤ 1048576) (hz : zs.length = cap) (hp : p < len)
    (hc : ∀ i, i < zs.length → w.cell? ⟨b, off + i, none⟩ = some (.int .u8 (zs.getD i 0))) (hx : b < w.heap.size) :
    Calls Trym.prog 6 #[.slice (some ⟨b, off, none⟩) len cap, .int .i64 p] w fun e w' => e = .returned (.bool true) ∧ Below w.heap.size w w' := by
  have hzt : (zs.take len).length = len := by simp; omega
  obtain ⟨s, hs⟩ := word_of ((zs.take len).getD p 0)
  have HV := hide (ver_same (zs.take len) p len hp s _ rfl hs)
  have HS := hide hs
  have HT := hide hzt
  clear hs hzt
  have C := copy_any b off len cap zs w hl hm hz hc hx
  have HZ := hide hz
  clear hz
  have hmm : len ≤ maxLen := by unfold maxLen; omega
  have hd : decide (len ≤ 1048576) = true := decide_eq_true hm
  go_enter Trym.func6, Trym.ntmps6
  go_wp2_with (first | (go_at_call 15; refine (zz15_any _ _ _ _ _ hmm).mono ?_; rintro e w' ⟨rfl, rfl⟩) | (go_at_call 11; refine C.mono ?_; rintro e w1 ⟨rfl, hT1, hb1⟩) | (go_at_call 16; refine (zzLitEnd_any s _ p len (zs.take len) w1 hm HT.out hp hT1 _ rfl HS.out).mono ?_; rintro e w2 ⟨rfl, n2, rfl⟩) | (go_at_call 17; refine (long_any _ p len (zs.take len) (w1.drewN n2) hm HT.out hp hT1).mono ?_; rintro e w3 ⟨rfl, n3, rfl⟩; rw [HV.out]))
  go_ret
  exact ⟨rfl, below_drewN hb1 _⟩

theorem walk (a0 : Option Addr) (len0 cap0 : Nat) (z0 : List Int) (a1 : Int) (w : World) (w0 : IsRow .u8 w a0 len0 cap0 z0) (w1 : (Lit.int .i64 a1).wf = true) :
    Calls Trym.prog 6 #[.slice a0 len0 cap0, .int .i64 a1] w fun e w' => e = .returned (.bool true) ∧ Below w.heap.size w w' := by
  have hmx : len0 ≤ maxLen := by
    rcases w0 with ⟨_, h, _, _⟩ | ⟨x, _, h1, h2, _⟩
    · omega
    · omega
  by_cases hm : len0 ≤ 1048576
  · have hd : decide (len0 ≤ 1048576) = true := decide_eq_true hm
    have hmi : ¬ (1048576 : Int) < (len0 : Int) := by omega
    by_cases h0 : a1 < 0
    · clear w0 w1
      go_enter Trym.func6, Trym.ntmps6
      go_wp2_with (go_at_call 15; refine (zz15_any _ _ _ _ _ hmx).mono ?_; rintro e w' ⟨rfl, rfl⟩)
      go_ret
      exact ⟨rfl, Below.refl _ _⟩
    · by_cases h1 : (len0 : Int) ≤ a1
      · clear w0 w1
        go_enter Trym.func6, Trym.ntmps6
        go_wp2_with (go_at_call 15; refine (zz15_any _ _ _ _ _ hmx).mono ?_; rintro e w' ⟨rfl, rfl⟩)
        go_ret
        exact ⟨rfl, Below.refl _ _⟩
      · obtain ⟨p, rfl⟩ : ∃ p : Nat, a1 = (p : Int) := ⟨a1.toNat, by omega⟩
        rcases w0 with ⟨_, h, _, _⟩ | ⟨x, rfl, h2, h3, h4, h5, h6⟩
        · omega
        · obtain ⟨b, off, rfl, hb, hc⟩ := row_plain h5 (by omega)
          exact walk_in b off len0 cap0 p z0 w h2 hm h4 (by omega) hc hb
  · have hd : decide (len0 ≤ 1048576) = false := decide_eq_false hm
    clear w0 w1
    go_enter Trym.func6, Trym.ntmps6
    go_wp2_with (go_at_call 15; refine (zz15_any _ _ _ _ _ hmx).mono ?_; rintro e w' ⟨rfl, rfl⟩)
    go_ret
    exact ⟨rfl, Below.refl _ _⟩

/-! ### THE ROW's STEP: WRITTEN OUT: LEAVE IT -/
set_option maxRecDepth 100000 in
theorem lifted (os : Os) (started : os.Started) (H : Type) (enc : TypeId × Value → H) :
    ReturnsInHanded {} Trym.checked os 6 .any (Rows.fnLiteralEndMatchesLongestWordSpec.pre6 enc Trym.prog Trym.f6 Rows.fnLiteralEndMatchesLongestWordRow.domain false) (Rows.fnLiteralEndMatchesLongestWordSpec.post enc Trym.prog Trym.f6 false true false false) := by
  refine returnsInHanded_of_change (C := Trym.checked) own started (by kernel_rfl) Trym.func6
    (ChangeSpec.witness6 (enc := enc) (C := Trym.checked) false ⟨#[], #[.slice none 0 0, .int .i64 0], []⟩ 8 (by kernel_rfl) (by kernel_rfl) (by kernel_rfl) (by kernel_rfl)) ?_
  intro W base args ds gs before hval0 hW hcnd _
  have hval : ∀ (j : Nat) t v, Trym.f6.params[j]? = some t → args[j]? = some v → Value.okWide Trym.prog W .any base t v := hval0
  have hW' := hW
  obtain ⟨p, q, hA0, hV, rfl, hfz, hnd⟩ := hW
  have hA : DataW.TrodAll enc Trym.prog W 0 (fun _ => true) true Trym.f6.params.toList args.toList ds p := hA0
  rw [Trym.params6] at hA hval
  obtain ⟨v0, vs0, d0, ds0, p0, q0, hargs, rfl, rfl, h0, r0⟩ := trodAll_cons hA
  obtain ⟨v1, vs1, d1, ds1, p1, q1, rfl, rfl, rfl, h1, r1⟩ := trodAll_cons r0
  obtain ⟨rfl, rfl, rfl⟩ := trodAll_nil r1
  obtain rfl : args = #[v0, v1] := by cases args; simp_all
  obtain ⟨rfl, rfl⟩ := trodVars_none hV
  obtain ⟨a0, len0, cap0, rfl⟩ := okWide_slice Trym.underlying23 (hval 0 23 v0 rfl rfl)
  have k0 := h0
  have lt0 : ∀ x ∈ p0, x.block < W.heap.size := by obtain ⟨m, hm⟩ := k0; exact DataW.trod_lt m _ _ _ hm
  obtain ⟨z0, w0⟩ : ∃ zs, IsRow .u8 W a0 len0 cap0 zs := by
    obtain ⟨fuel, hf⟩ := h0
    rcases open_ints Trym.underlying23 Trym.underlying5 (by kernel_rfl) hf with ⟨hcs, _⟩ | ⟨x, l, c, zs, hcs, _, hl, hm, hz, _, hcell, hwz⟩
    · simp [Value.cells] at hcs
      obtain ⟨rfl, rfl, rfl⟩ := hcs
      exact ⟨[], .inl ⟨rfl, rfl, rfl, rfl⟩⟩
    · simp [Value.cells] at hcs
      obtain ⟨rfl, rfl, rfl⟩ := hcs
      exact ⟨zs, .inr ⟨_, rfl, hl, hm, by simpa using hz, hcell, hwz⟩⟩
  obtain ⟨a1, rfl, rfl, rfl, w1⟩ := open_int Trym.underlying3 (hval 1 3 v1 rfl rfl) h1
  clear hA0 hval0
  refine (walk a0 len0 cap0 z0 a1 W w0 w1).mono fun e W' ⟨he, bel⟩ => ?_
  subst he
  exact ⟨_, rfl, _, _, _, [], _, [], hW', trodAll_mk1 (shut_bool Trym.underlying4 _), (trodAll_cons_mk (Below.trod laidOut (by kernel_rfl) (of_decide_eq_true (by kernel_rfl)) k0 bel lt0) (trodAll_cons_mk (shut_int Trym.underlying3 w1) trodAll_mk0)), rfl, bel.frame _, fun h => by cases h⟩

theorem over : Rows.fnLiteralEndMatchesLongestWordRow.holds Trym.pinned (OpenSpec.ofChange Rows.fnLiteralEndMatchesLongestWordSpec) :=
  OpenClaim.holds_of_wide 6 Trym.f6 rfl rfl rfl rfl rfl rfl rfl ⟨rfl, rfl, rfl, rfl, rfl⟩ rfl rfl rfl rfl rfl (by kernel_rfl) Trym.func6 (by kernel_rfl)
    (of_decide_eq_true (by kernel_rfl)) (by unfold Func.isWrapper; first | (rw [if_pos (by decide +kernel)]; kernel_rfl) | (rw [if_neg (by decide +kernel)]; exact ⟨rfl, rfl⟩))
    (fun os started H enc _ => lifted os started H enc)

/-- ████ THE STATEMENT ████ -/
theorem proved : Rows.FnLiteralEndMatchesLongestWordSaid := over
end Go.Proofs.Qxb6603780aMods.fnLiteralEndMatchesLongestWord
