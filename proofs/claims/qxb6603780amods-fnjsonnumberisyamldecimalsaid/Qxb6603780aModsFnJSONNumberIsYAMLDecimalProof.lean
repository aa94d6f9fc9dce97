/-
  PROOF OF 'Rows.FnJSONNumberIsYAMLDecimalSaid'. The frame is the seat's shell (written by the kit's program); the walk is mine.
-/
import Derived.Test.Qxb6603780aModsRows
import Derived.WalkKit
import Derived.ProofKit
import Derived.OpenShut
import Derived.ShutString
import Derived.ChangeOld
import Derived.Below
import Derived.Laws.IdiomStrings
import Derived.Test.Qxb6603780aModsNumEnd
import Derived.Test.Qxb6603780aModsIsDec
import Derived.Test.Qxb6603780aModsLawJson
namespace Go.Proofs.Qxb6603780aMods.fnJSONNumberIsYAMLDecimal
open Go.ChangeShapes Go.WideShapes Go.ChangeAt Go.RowKit
open Go.ChangeMaps (open_string shut_string)
set_option linter.unusedVariables false

theorem own : ownKnob Trym.prog.godebug = none := by kernel_rfl
theorem laidOut : laidOutB Trym.prog = true := by kernel_rfl

/-- WHAT THE WALK IS TOLD OF A SLICE OF INTEGERS THAT CAME IN: it is nil; or it leads to a row of 'cap' cells, the numbers 'zs' (the first 'len' are its elements, the rest its spare room), each fitting its kind. -/
def IsRow (k : IntKind) (w : World) (a : Option Addr) (len cap : Nat) (zs : List Int) : Prop :=
  (a = none ∧ len = 0 ∧ cap = 0 ∧ zs = []) ∨
  ∃ x, a = some x ∧ len ≤ cap ∧ cap ≤ maxLen ∧ zs.length = cap ∧ (∀ i, i < zs.length → w.cell? (x.add i) = some (.int k (zs.getD i 0))) ∧ ∀ n ∈ zs, (Lit.int k n).wf = true

/-! ### STEP 1: THE TEXT AS A STRING -/
def byt (z : Int) : UInt8 := UInt8.ofNat z.toNat
def strOf (zs : List Int) : ByteArray := ⟨(zs.map byt).toArray⟩
theorem byt_nat {z : Int} (h : 0 ≤ z ∧ z ≤ 255) : ((byt z).toNat : Int) = z := by
  unfold byt
  rw [UInt8.toNat_ofNat_of_lt' (by show z.toNat < 256; omega)]
  omega
theorem wl_strOf (zs : List Int) (h : ∀ z ∈ zs, 0 ≤ z ∧ z ≤ 255) : wl (strOf zs) = zs := by
  unfold wl strOf
  simp only [List.map_map]
  conv => rhs; rw [← List.map_id zs]
  exact List.map_congr_left (fun z hz => byt_nat (h z hz))
theorem size_strOf (zs : List Int) : (strOf zs).size = zs.length := by
  show (zs.map byt).toArray.size = _
  simp
theorem conv_any (w : World) (b n : Nat) (zs : List Int) (hz : zs.length = n) (h : ∀ z ∈ zs, 0 ≤ z ∧ z ≤ 255) (hT : Txt w b zs) :
    (convert 23 9 (.slice (some ⟨b, 0, none⟩) n n)).run Trym.prog w = .ok (.string (strOf zs)) w := by
  have hl : (zs.map byt).length = n := by simp [hz]
  have H := run_convert_bytes_back (P := Trym.prog) w 23 9 5 ⟨b, 0, none⟩ n (zs.map byt) Trym.underlying23 Trym.underlying5 Trym.underlying9 (by
    intro j hj
    have hj' : j < zs.length := by simpa using hj
    rw [WideShapes.add_plain, Nat.zero_add, hT j hj', List.getElem_map, byt_nat (h _ (List.getElem_mem hj'))]
    simp [List.getD_eq_getElem?_getD, List.getElem?_eq_getElem hj'])
  rw [hl] at H
  exact H

/-! ### STEP 2: THE WALK -/
set_option maxHeartbeats 400000 in
theorem walk_in (b off len cap : Nat) (zs : List Int) (w : World) (hl : len ≤ cap) (hm : len ≤ 1048576) (h0 : 0 < len) (hz : zs.length = cap)
    (hc : ∀ i, i < zs.length → w.cell? ⟨b, off + i, none⟩ = some (.int .u8 (zs.getD i 0))) (hw : ∀ z ∈ zs, 0 ≤ z ∧ z ≤ 255) (hx : b < w.heap.size) :
    Calls Trym.prog 4 #[.slice (some ⟨b, off, none⟩) len cap] w fun e w' => e = .returned (.bool true) ∧ Below w.heap.size w w' := by
  have hzt : (zs.take len).length = len := by simp; omega
  have hwt : ∀ z ∈ zs.take len, 0 ≤ z ∧ z ≤ 255 := fun z hz' => hw z (List.mem_of_mem_take hz')
  have HJ : Hid (numEnd (zs.take len) 0 true = (len, 0) → isDec (zs.take len) = true) := by
    intro h
    exact json_law (zs.take len) (by omega) (by rw [hzt]; exact h)
  have C := copy_any b off len cap zs w hl hm hz hc hx
  clear hz hc hw
  have hmm : len ≤ maxLen := by unfold maxLen; omega
  have hd : decide (len ≤ 1048576) = true := decide_eq_true hm
  have hne : ((len : Int) == 0) = false := by simp; omega
  generalize zs.take len = ys at *
  have HW := hide hwt
  have HT := hide hzt
  have SD := hide (fun w => zzIsDec_any (strOf ys) w (by rw [size_strOf, hzt]; exact hm))
  rw [wl_strOf ys hwt] at SD
  have NE := hide (fun b w (h : Txt w b ys) => zzNumEnd_any b 0 len ys true w hm hzt h0 h)
  clear hwt hzt
  have hqc : ∃ q1 q2 : Nat, Hid (numEnd ys 0 true = (q1, q2)) := ⟨_, _, rfl⟩
  obtain ⟨q1, q2, HQ⟩ := hqc
  rw [HQ.out] at HJ NE
  by_cases hq : q1 = len ∧ q2 = 0
  · obtain ⟨rfl, rfl⟩ := hq
    rw [HJ.out rfl] at SD
    go_enter Trym.func4, Trym.ntmps4
    go_wp2_with (first | (go_at_call 10; refine (zz10_any _ _ _ _ hmm).mono ?_; rintro e w' ⟨rfl, rfl⟩) | (go_at_call 11; refine C.mono ?_; rintro e w1 ⟨rfl, hT1, hb1⟩; have hcv := conv_any w1 _ _ ys HT.out HW.out hT1) | (go_at_call 12; refine (NE.out _ w1 hT1).mono ?_; rintro e w2 ⟨rfl, rfl⟩) | (go_at_call 8; refine (SD.out _).mono ?_; rintro e w3 ⟨rfl, rfl⟩))
    go_ret
    exact ⟨rfl, hb1⟩
  · have hcs : ((q1 : Int) != (len : Int)) = true ∨ ((q1 : Int) != (len : Int)) = false ∧ ((q2 : Int) != 0) = true := by simp; omega
    clear hq
    rcases hcs with h1 | ⟨h1, h2⟩
    · go_enter Trym.func4, Trym.ntmps4
      go_wp2_with (first | (go_at_call 10; refine (zz10_any _ _ _ _ hmm).mono ?_; rintro e w' ⟨rfl, rfl⟩) | (go_at_call 11; refine C.mono ?_; rintro e w1 ⟨rfl, hT1, hb1⟩) | (go_at_call 12; refine (NE.out _ w1 hT1).mono ?_; rintro e w2 ⟨rfl, rfl⟩))
      go_ret
      exact ⟨rfl, hb1⟩
    · go_enter Trym.func4, Trym.ntmps4
      go_wp2_with (first | (go_at_call 10; refine (zz10_any _ _ _ _ hmm).mono ?_; rintro e w' ⟨rfl, rfl⟩) | (go_at_call 11; refine C.mono ?_; rintro e w1 ⟨rfl, hT1, hb1⟩) | (go_at_call 12; refine (NE.out _ w1 hT1).mono ?_; rintro e w2 ⟨rfl, rfl⟩))
      go_ret
      exact ⟨rfl, hb1⟩

theorem walk (a0 : Option Addr) (len0 cap0 : Nat) (z0 : List Int) (w : World) (w0 : IsRow .u8 w a0 len0 cap0 z0) :
    Calls Trym.prog 4 #[.slice a0 len0 cap0] w fun e w' => e = .returned (.bool true) ∧ Below w.heap.size w w' := by
  have hmx : len0 ≤ maxLen := by
    rcases w0 with ⟨_, h, _, _⟩ | ⟨x, _, h1, h2, _⟩
    · omega
    · omega
  by_cases hm : len0 ≤ 1048576
  · have hd : decide (len0 ≤ 1048576) = true := decide_eq_true hm
    have hmi : ¬ (1048576 : Int) < (len0 : Int) := by omega
    by_cases h0 : len0 = 0
    · clear w0
      subst h0
      go_enter Trym.func4, Trym.ntmps4
      go_wp2_with (go_at_call 10; refine (zz10_any _ _ _ _ hmx).mono ?_; rintro e w' ⟨rfl, rfl⟩)
      go_ret
      exact ⟨rfl, Below.refl _ _⟩
    · rcases w0 with ⟨_, h, _, _⟩ | ⟨x, rfl, h2, h3, h4, h5, h6⟩
      · omega
      · obtain ⟨b, off, rfl, hb, hc⟩ := row_plain h5 (by omega)
        exact walk_in b off len0 cap0 z0 w h2 hm (by omega) h4 hc (fun z hz => bounds_u8 (h6 z hz)) hb
  · have hd : decide (len0 ≤ 1048576) = false := decide_eq_false hm
    clear w0
    go_enter Trym.func4, Trym.ntmps4
    go_wp2_with (go_at_call 10; refine (zz10_any _ _ _ _ hmx).mono ?_; rintro e w' ⟨rfl, rfl⟩)
    go_ret
    exact ⟨rfl, Below.refl _ _⟩

/-! ### THE ROW's STEP: WRITTEN OUT: LEAVE IT -/
set_option maxRecDepth 100000 in
theorem lifted (os : Os) (started : os.Started) (H : Type) (enc : TypeId × Value → H) :
    ReturnsInHanded {} Trym.checked os 4 .any (Rows.fnJSONNumberIsYAMLDecimalSpec.pre6 enc Trym.prog Trym.f4 Rows.fnJSONNumberIsYAMLDecimalRow.domain false) (Rows.fnJSONNumberIsYAMLDecimalSpec.post enc Trym.prog Trym.f4 false true false false) := by
  refine returnsInHanded_of_change (C := Trym.checked) own started (by kernel_rfl) Trym.func4
    (ChangeSpec.witness6 (enc := enc) (C := Trym.checked) false ⟨#[], #[.slice none 0 0], []⟩ 8 (by kernel_rfl) (by kernel_rfl) (by kernel_rfl) (by kernel_rfl)) ?_
  intro W base args ds gs before hval0 hW hcnd _
  have hval : ∀ (j : Nat) t v, Trym.f4.params[j]? = some t → args[j]? = some v → Value.okWide Trym.prog W .any base t v := hval0
  have hW' := hW
  obtain ⟨p, q, hA0, hV, rfl, hfz, hnd⟩ := hW
  have hA : DataW.TrodAll enc Trym.prog W 0 (fun _ => true) true Trym.f4.params.toList args.toList ds p := hA0
  rw [Trym.params4] at hA hval
  obtain ⟨v0, vs0, d0, ds0, p0, q0, hargs, rfl, rfl, h0, r0⟩ := trodAll_cons hA
  obtain ⟨rfl, rfl, rfl⟩ := trodAll_nil r0
  obtain rfl : args = #[v0] := by cases args; simp_all
  obtain ⟨rfl, rfl⟩ := trodVars_none hV
  obtain ⟨a0, len0, cap0, rfl⟩ := okWide_slice Trym.underlying23 (hval 0 23 v0 rfl rfl)
  have k0 := h0
  have lt0 : ∀ x ∈ p0, x.block < W.heap.size := by obtain ⟨m, hm⟩ := k0; exact DataW.trod_lt m _ _ _ hm
  obtain ⟨z0, w0⟩ : ∃ zs, IsRow .u8 W a0 len0 cap0 zs := by
    obtain ⟨fuel, hf⟩ := h0
    rcases open_ints Trym.underlying23 Trym.underlying5 (by kernel_rfl) hf with ⟨hcs, _⟩ | ⟨x, l, c, zs, hcs, _, hl, hm, hz, _, hcell, hwz⟩
    · simp [Value.cells] at hcs
      obtain ⟨rfl, rfl, rfl⟩ := hcs
      exact ⟨[], .inl ⟨rfl, rfl, rfl, rfl⟩⟩
    · simp [Value.cells] at hcs
      obtain ⟨rfl, rfl, rfl⟩ := hcs
      exact ⟨zs, .inr ⟨_, rfl, hl, hm, by simpa using hz, hcell, hwz⟩⟩
  clear hA0 hval0
  refine (walk a0 len0 cap0 z0 W w0).mono fun e W' ⟨he, bel⟩ => ?_
  subst he
  exact ⟨_, rfl, _, _, _, [], _, [], hW', trodAll_mk1 (shut_bool Trym.underlying4 _), (trodAll_cons_mk (Below.trod laidOut (by kernel_rfl) (of_decide_eq_true (by kernel_rfl)) k0 bel lt0) trodAll_mk0), rfl, bel.frame _, fun h => by cases h⟩

theorem over : Rows.fnJSONNumberIsYAMLDecimalRow.holds Trym.pinned (OpenSpec.ofChange Rows.fnJSONNumberIsYAMLDecimalSpec) :=
  OpenClaim.holds_of_wide 4 Trym.f4 rfl rfl rfl rfl rfl rfl rfl ⟨rfl, rfl, rfl, rfl, rfl⟩ rfl rfl rfl rfl rfl (by kernel_rfl) Trym.func4 (by kernel_rfl)
    (of_decide_eq_true (by kernel_rfl)) (by unfold Func.isWrapper; first | (rw [if_pos (by decide +kernel)]; kernel_rfl) | (rw [if_neg (by decide +kernel)]; exact ⟨rfl, rfl⟩))
    (fun os started H enc _ => lifted os started H enc)

/-- ████ THE STATEMENT ████ -/
theorem proved : Rows.FnJSONNumberIsYAMLDecimalSaid := over
end Go.Proofs.Qxb6603780aMods.fnJSONNumberIsYAMLDecimal
