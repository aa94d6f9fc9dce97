/-
  PROOF OF 'Rows.FnSplitByPathGroupsAreFiltersSaid'. The frame is after the kit's shell for a law over one slice; the opening of the argument and the walk are mine.
-/
import Derived.Test.Qxb6605173aModsRows
import Derived.WalkKit
import Derived.ProofKit
import Derived.OpenShut
import Derived.ShutString
import Derived.ChangeOld
import Derived.Below
import Derived.Deep.Strs
import Derived.Test.Qxb6605173aModsMain
import Derived.Test.Qxb6605173aModsZero
namespace Go.Proofs.Qxb6605173aMods.fnSplitByPathGroupsAreFilters
open Go.ChangeShapes Go.WideShapes Go.ChangeAt Go.RowKit
open Go.ChangeMaps (open_string shut_string)
set_option linter.unusedVariables false

theorem own : ownKnob Trym.prog.godebug = none := by kernel_rfl
theorem laidOut : laidOutB Trym.prog = true := by kernel_rfl

/-- WHAT THE WALK IS TOLD OF THE LIST THAT CAME IN: it is empty; or it leads to a row of records. -/
def IsRecs (w : World) (a : Option Addr) (len cap : Nat) : Prop :=
  len = 0 ∨ ∃ b off R, a = some ⟨b, off, none⟩ ∧ len ≤ cap ∧ cap ≤ maxLen ∧ SRow w b off len R

/-- One record out of its reading. -/
theorem rec_of {H : Type} {enc : TypeId × Value → H} {W : World} {fuel : Nat} {cs : List Value} {x : DataW H × List MemPlace} (h : DataW.trod enc Trym.prog W 0 (fun _ => true) true fuel 27 cs = some x) :
    ∃ r : RC, cs = [.string r.ad, .slice r.pa r.pl r.pc, .int .u32 r.wt] ∧ PathAt W r := by
  obtain ⟨y0, y1, y2, n, _, hl, h0, h1, h2⟩ := Deep.trod_struct3 Trym.underlying27 h
  have c27 : Trym.prog.cellsOf 27 = 3 := by kernel_rfl
  have c9 : Trym.prog.cellsOf 9 = 1 := by kernel_rfl
  have c24 : Trym.prog.cellsOf 24 = 1 := by kernel_rfl
  have c25 : Trym.prog.cellsOf 25 = 1 := by kernel_rfl
  rw [c27] at hl
  match cs, hl with
  | [u0, u1, u2], _ =>
    dsimp only at h0 h1 h2
    rw [c9] at h0
    rw [c24] at h1
    rw [c25] at h2
    simp only [List.drop_zero, List.take_succ_cons, List.take_zero, List.drop_succ_cons] at h0 h1 h2
    obtain ⟨ad, e0, _, _⟩ := DataW.trod_string Trym.underlying9 h0
    obtain ⟨wt, e2, _, _⟩ := DataW.trod_int Trym.underlying25 h2
    have e0' : u0 = .string ad := by simpa using e0
    have e2' : u2 = .int .u32 wt := by simpa using e2
    subst e0' e2'
    rcases Deep.open_strs Trym.underlying24 Trym.underlying9 c9 h1 with ⟨e1, _⟩ | ⟨a, len, cap, m, Sx, e1, _, hle, hcap, hm, _, hS⟩
    · have e1' : u1 = .slice none 0 0 := by simpa using e1
      subst e1'
      exact ⟨⟨ad, none, 0, 0, fun _ => ⟨#[]⟩, wt⟩, rfl, ⟨Nat.le_refl _, Nat.zero_le _, fun _ => ⟨rfl, rfl⟩, fun h => absurd h (Nat.lt_irrefl _), fun j hj => absurd hj (Nat.not_lt_zero _)⟩⟩
    · have e1' : u1 = .slice (some a) len cap := by simpa using e1
      subst e1'
      simp only [if_true] at hm
      subst hm
      refine ⟨⟨ad, some a, len, m, Sx, wt⟩, rfl, ⟨hle, hcap, fun h => (by cases h), fun h => ?_, fun j hj => (hS j (Nat.lt_of_lt_of_le hj hle)).2⟩⟩
      have h' : 0 < len := h
      obtain ⟨pb, po, spot⟩ := a
      have hspot : spot = none := by simpa [Addr.add] using World.cell?_spot (hS 0 (by omega)).1
      subst hspot
      have hc : ∀ j, j < m → W.cell? ⟨pb, po + j, none⟩ = some (.string (Sx j)) := fun j hj => by rw [← WideShapes.add_plain]; exact (hS j hj).1
      exact ⟨pb, po, rfl, World.block_lt_of_cell? W ⟨pb, po + 0, none⟩ (hc 0 (by omega)), fun j hj => hc j (Nat.lt_of_lt_of_le hj hle)⟩

theorem recs_of {H : Type} {enc : TypeId × Value → H} {W : World} {fuel : Nat} {a0 : Option Addr} {len cap : Nat} {x : DataW H × List MemPlace} (h : DataW.trod enc Trym.prog W 0 (fun _ => true) true fuel 22 [.slice a0 len cap] = some x) : IsRecs W a0 len cap := by
  have c27 : Trym.prog.cellsOf 27 = 3 := by kernel_rfl
  rcases Deep.open_slice Trym.underlying22 h with ⟨hcs, _⟩ | ⟨a, l, c, m, n, D, Pl, hcs, _, hl, hm, hmm, _, hel⟩
  · simp at hcs
    exact .inl hcs.2.1
  · simp at hcs
    obtain ⟨rfl, rfl, rfl⟩ := hcs
    simp only [if_true] at hmm
    subst hmm
    rw [c27] at hel
    by_cases h0 : len = 0
    · exact .inl h0
    · right
      have each : ∀ i, i < len → ∃ r : RC, W.cell? ((a.add (i * 3)).add 0) = some (.string r.ad) ∧ W.cell? ((a.add (i * 3)).add 1) = some (.slice r.pa r.pl r.pc) ∧ W.cell? ((a.add (i * 3)).add 2) = some (.int .u32 r.wt) ∧ PathAt W r := by
        intro i hi
        obtain ⟨cs', hc, ht⟩ := hel i (Nat.lt_of_lt_of_le hi hl)
        obtain ⟨_, _, hcell⟩ := World.cells?_some hc
        obtain ⟨r, hr, hP⟩ := rec_of ht
        subst hr
        exact ⟨r, hcell 0 (by omega), hcell 1 (by omega), hcell 2 (by omega), hP⟩
      obtain ⟨R, hR⟩ := @Deep.choose_lt RC ⟨⟨⟨#[]⟩, none, 0, 0, fun _ => ⟨#[]⟩, 0⟩⟩ len _ each
      obtain ⟨b, off, spot⟩ := a
      have hspot : spot = none := by simpa [Addr.add] using World.cell?_spot (hR 0 (by omega)).1
      subst hspot
      have e : ∀ i c, ((⟨b, off, none⟩ : Addr).add (i * 3)).add c = ⟨b, off + i * 3 + c, none⟩ := fun i c => by rw [WideShapes.add_plain, WideShapes.add_plain]
      refine ⟨b, off, R, rfl, hl, hm, ⟨?_, fun i hi => ?_, fun i hi => ?_, fun i hi => ?_, fun i hi => (hR i hi).2.2.2⟩⟩
      · have := (hR 0 (by omega)).1
        rw [e] at this
        exact World.block_lt_of_cell? W _ this
      · have := (hR i hi).1
        rw [e, Nat.add_zero] at this
        exact this
      · have := (hR i hi).2.1
        rw [e] at this
        exact this
      · have := (hR i hi).2.2.1
        rw [e] at this
        exact this

theorem walk (a0 : Option Addr) (len0 cap0 : Nat) (w : World) (w0 : IsRecs w a0 len0 cap0) :
    Calls Trym.prog 3 #[.slice a0 len0 cap0] w fun e w' => e = .returned (.bool true) ∧ Below w.heap.size w w' := by
  by_cases h0 : len0 = 0
  · subst h0
    exact main_zero a0 cap0 w
  · rcases w0 with h | ⟨b, off, R, rfl, hl, hm, hR⟩
    · exact absurd h h0
    · exact main_pos b off len0 cap0 R w (by omega) hl hm hR

/-! ### THE ROW's STEP: WRITTEN OUT: LEAVE IT -/
set_option maxRecDepth 100000 in
theorem lifted (os : Os) (started : os.Started) (H : Type) (enc : TypeId × Value → H) :
    ReturnsInHanded {} Trym.checked os 3 .any (Rows.fnSplitByPathGroupsAreFiltersSpec.pre6 enc Trym.prog Trym.f3 Rows.fnSplitByPathGroupsAreFiltersRow.domain false) (Rows.fnSplitByPathGroupsAreFiltersSpec.post enc Trym.prog Trym.f3 false true false false) := by
  refine returnsInHanded_of_change (C := Trym.checked) own started (by kernel_rfl) Trym.func3
    (ChangeSpec.witness6 (enc := enc) (C := Trym.checked) false ⟨#[], #[.slice none 0 0], []⟩ 8 (by kernel_rfl) (by kernel_rfl) (by kernel_rfl) (by kernel_rfl)) ?_
  intro W base args ds gs before hval0 hW hcnd _
  have hval : ∀ (j : Nat) t v, Trym.f3.params[j]? = some t → args[j]? = some v → Value.okWide Trym.prog W .any base t v := hval0
  have hW' := hW
  obtain ⟨p, q, hA0, hV, rfl, hfz, hnd⟩ := hW
  have hA : DataW.TrodAll enc Trym.prog W 0 (fun _ => true) true Trym.f3.params.toList args.toList ds p := hA0
  rw [Trym.params3] at hA hval
  obtain ⟨v0, vs0, d0, ds0, p0, q0, hargs, rfl, rfl, h0, r0⟩ := trodAll_cons hA
  obtain ⟨rfl, rfl, rfl⟩ := trodAll_nil r0
  obtain rfl : args = #[v0] := by cases args; simp_all
  obtain ⟨rfl, rfl⟩ := trodVars_none hV
  obtain ⟨a0, len0, cap0, rfl⟩ := okWide_slice Trym.underlying22 (hval 0 22 v0 rfl rfl)
  have k0 := h0
  have lt0 : ∀ x ∈ p0, x.block < W.heap.size := by obtain ⟨m, hm⟩ := k0; exact DataW.trod_lt m _ _ _ hm
  have w0 : IsRecs W a0 len0 cap0 := by
    obtain ⟨fuel, hf⟩ := h0
    exact recs_of (by simpa [Value.cells] using hf)
  clear hA0 hval0
  refine (walk a0 len0 cap0 W w0).mono fun e W' ⟨he, bel⟩ => ?_
  subst he
  exact ⟨_, rfl, _, _, _, [], _, [], hW', trodAll_mk1 (shut_bool Trym.underlying4 _), (trodAll_cons_mk (Below.trod laidOut (by kernel_rfl) (of_decide_eq_true (by kernel_rfl)) k0 bel lt0) trodAll_mk0), rfl, bel.frame _, fun h => by cases h⟩

theorem over : Rows.fnSplitByPathGroupsAreFiltersRow.holds Trym.pinned (OpenSpec.ofChange Rows.fnSplitByPathGroupsAreFiltersSpec) :=
  OpenClaim.holds_of_wide 3 Trym.f3 rfl rfl rfl rfl rfl rfl rfl ⟨rfl, rfl, rfl, rfl, rfl⟩ rfl rfl rfl rfl rfl (by kernel_rfl) Trym.func3 (by kernel_rfl)
    (of_decide_eq_true (by kernel_rfl)) (by unfold Func.isWrapper; first | (rw [if_pos (by decide +kernel)]; kernel_rfl) | (rw [if_neg (by decide +kernel)]; exact ⟨rfl, rfl⟩))
    (fun os started H enc _ => lifted os started H enc)

/-- ████ THE STATEMENT ████ -/
theorem proved : Rows.FnSplitByPathGroupsAreFiltersSaid := over
end Go.Proofs.Qxb6605173aMods.fnSplitByPathGroupsAreFilters
