/-
  THE WALKS of seenBeforeB1 (9), sameTailB1 (10).
-/
import Derived.Test.Qxb6605173aModsSplit
namespace Go.Proofs.Qxb6605173aMods
open Go.RowKit Go.Maps
set_option linter.unusedVariables false
set_option linter.unusedSimpArgs false

theorem idx_nil_succ {R : Nat → RC} {k : Nat} {L : List UInt8} (h : idx R k L = []) (hn : nmB R L k = false) : idx R (k + 1) L = [] := by
  rw [idx_succ, h, hn]; rfl
theorem idx_ne_of {R : Nat → RC} {k m : Nat} {L : List UInt8} (hk : k < m) (hn : nmB R L k = true) : idx R m L ≠ [] := by
  intro h
  have : k ∈ idx R m L := by
    unfold idx
    rw [List.mem_filter]
    exact ⟨by simpa using hk, hn⟩
  rw [h] at this
  simp at this

/-- Has a record among the first i gone by the name L? -/
def seenB (R : Nat → RC) (i : Nat) (L : List UInt8) : Bool := decide (idx R i L ≠ [])
theorem str_eq {s t : ByteArray} (h : (t.toList == s.toList) = true) : (t.data.toList == s.data.toList) = true := by
  rw [← ByteArray.toList_eq, ← ByteArray.toList_eq]; exact h
theorem str_ne {s t : ByteArray} (h : (t.toList == s.toList) = false) : (t.data.toList == s.data.toList) = false := by
  rw [← ByteArray.toList_eq, ← ByteArray.toList_eq]; exact h

set_option maxRecDepth 100000 in
set_option maxHeartbeats 1000000 in
theorem seen_any (b off n cap i : Nat) (s : ByteArray) (R : Nat → RC) (w : World) (hm : n ≤ 4096) (hi : i ≤ n) (hR : SRow w b off n R) :
    Calls Trym.prog 9 #[.slice (some ⟨b, off, none⟩) n cap, .int .i64 i, .string s] w fun e w' => e = .returned (.bool (seenB R i s.data.toList)) ∧ w = w' := by
  go_enter Trym.func9, Trym.ntmps9
  go_wp2
  go_loop [7] (fun q => ∃ j : Nat, j ≤ i ∧ q = .int .i64 j ∧ Hid (idx R j s.data.toList = [])) (fun q => i - (intOf q).toNat)
  case atStart => exact ⟨0, Nat.zero_le _, rfl, rfl⟩
  case round =>
    obtain ⟨j, hj, rfl, HI⟩ := hrel
    by_cases hlt : j < i
    · have hc1 := hR.c1 j (by omega)
      have hP := hR.path j (by omega)
      have HS := hide (idx_nil_succ HI.out)
      have HN := hide (idx_ne_of (R := R) (L := s.data.toList) hlt)
      unfold nmB at HS HN
      generalize R j = r at *
      by_cases hp0 : r.pl = 0
      · have HS' : Hid (idx R (j + 1) s.data.toList = []) := hide (HS.out (by simp [hp0]))
        have hq : decide ((0 : Int) < (r.pl : Int)) = false := decide_eq_false (by omega)
        clear HS HN hP
        go_wp2
        go_round
        case rel => exact ⟨j + 1, by omega, by go_num, HS'⟩
        case measure => simp [intOf]; omega
      · obtain ⟨pb, po, hpa, hpb, hpc⟩ := hP.pos (by omega)
        rw [hpa] at hc1
        have hcs := hpc 0 (by omega)
        rw [Nat.add_zero] at hcs
        have hpi : (0 : Int) < (r.pl : Int) := by omega
        have hpd : decide (0 < r.pl) = true := decide_eq_true (by omega)
        rw [hpd, Bool.true_and] at HS HN
        generalize r.ps 0 = t at *
        clear hpa hpc hpd hP
        go_wp2
        · have hT : true = seenB R i s.data.toList := by
            unfold seenB
            exact (decide_eq_true (HN.out (str_eq (by assumption)))).symm
          go_ret
          exact ⟨ret_bool hT, rfl⟩
        · have HS' : Hid (idx R (j + 1) s.data.toList = []) := hide (HS.out (str_ne (by assumption)))
          go_round
          case rel => exact ⟨j + 1, by omega, by go_num, HS'⟩
          case measure => simp [intOf]; omega
    · obtain rfl : i = j := by omega
      have HF : Hid (false = seenB R i s.data.toList) := hide (by unfold seenB; rw [HI.out]; rfl)
      clear HI
      go_wp2
      go_ret
      exact ⟨ret_bool HF.out, rfl⟩

/-- Where the path without its first element lies. -/
theorem tail_at {w : World} {r : RC} (h : PathAt w r) (hp : 0 < r.pl) : r.pl - 1 ≤ r.pc - 1 ∧ (0 < r.pl - 1 → ∃ pb po, tailA r = some ⟨pb, po, none⟩ ∧ pb < w.heap.size ∧ ∀ j, j < r.pl - 1 → w.cell? ⟨pb, po + j, none⟩ = some (.string (r.ps (j + 1)))) := by
  have hle := h.le
  refine ⟨by omega, fun h1 => ?_⟩
  obtain ⟨pb, po, hpa, hpb, hpc⟩ := h.pos hp
  refine ⟨pb, po + 1, ?_, hpb, fun j hj => ?_⟩
  · unfold tailA
    rw [if_neg (by omega), hpa]
  · rw [Nat.add_assoc, Nat.add_comm 1 j]
    exact hpc (j + 1) (by omega)

set_option maxRecDepth 100000 in
set_option maxHeartbeats 1000000 in
/-- 'sameTailB1' of a record and its like, the path's first element dropped. -/
theorem same_any (r g : RC) (w : World) (hp : 0 < r.pl) (hple : r.pl ≤ 1048576) (hS : SameR r g) (hPr : PathAt w r) (hPg : PathAt w g) :
    Calls Trym.prog 10 #[.agg #[.string g.ad, .slice (tailA g) (g.pl - 1) (g.pc - 1), .int .u32 g.wt], .agg #[.string r.ad, .slice r.pa r.pl r.pc, .int .u32 r.wt]] w fun e w' => e = .returned (.bool true) ∧ Below w.heap.size w w' := by
  have e1 := hS.ad
  have e2 := hS.wt
  have e3 := hS.pl
  obtain ⟨t1, t2⟩ := tail_at hPg (by omega)
  have hps := hS.ps
  rw [e1, e2, e3]
  rw [e3] at t1 t2
  obtain ⟨ad, pa, pl, pc, ps, wt⟩ := r
  dsimp only at *
  obtain ⟨pb, po, rfl, hpb, hpc⟩ := hPr.pos hp
  dsimp only at hpc
  generalize tailA g = ta at *
  generalize g.pc - 1 = tc at *
  obtain ⟨gp, hgp⟩ : ∃ gp, gp = g.ps := ⟨_, rfl⟩
  rw [← hgp] at hps t2
  clear hgp e1 e2 e3 hS hPr hPg
  have T2 := hide t2
  clear t2
  obtain ⟨l, rfl⟩ : ∃ l, pl = l + 1 := ⟨pl - 1, by omega⟩
  rw [show l + 1 - 1 = l by omega] at t1 T2 ⊢
  have hq : ((l : Int) != (((l + 1 : Nat) : Int)) - 1) = false := by simp
  go_enter Trym.func10, Trym.ntmps10
  go_wp2
  go_loopw [5] (fun i wr => ∃ (q nd : Nat), q ≤ l ∧ i = .int .i64 q ∧ wr = ((w.alloc (.cells #[.string ad, .slice ta l tc, .int .u32 wt] 30)).alloc (.cells #[.string ad, .slice (some ⟨pb, po, none⟩) (l + 1) pc, .int .u32 wt] 27)).drewN nd) (fun i _ => l - (intOf i).toNat)
  case atStart => exact ⟨0, 0, Nat.zero_le _, rfl, rfl⟩
  case round =>
    obtain ⟨q, nd, hql, rfl, rfl⟩ := hrel
    by_cases hlt : q < l
    · obtain ⟨gb, gof, rfl, hgb, hgc⟩ := T2.out (by omega)
      have hcg := hgc q hlt
      rw [hps (q + 1) (by omega)] at hcg
      have hcr := hpc (q + 1) (by omega)
      generalize ps (q + 1) = sq at *
      have hq1 : (q : Int) < (l : Int) := by omega
      have hq2 : (q : Int) + 1 < (l : Int) + 1 := by omega
      clear hgc hpc hps
      have hcg' : ∀ X Y : Obj, ((w.alloc X).alloc Y).cell? ⟨gb, gof + q, none⟩ = some (.string sq) := fun X Y => by
        rw [World.cell?_alloc_past _ _ _ (by simp; omega), World.cell?_alloc_past _ _ _ hgb]; exact hcg
      have hcr' : ∀ X Y : Obj, ((w.alloc X).alloc Y).cell? ⟨pb, po + (q + 1), none⟩ = some (.string sq) := fun X Y => by
        rw [World.cell?_alloc_past _ _ _ (by simp; omega), World.cell?_alloc_past _ _ _ hpb]; exact hcr
      go_wp2
      go_region
      all_goals go_wp2
      go_roundw
      case rel => exact ⟨q + 1, _, by omega, by go_num, rfl⟩
      case measure => simp [intOf]; omega
    · go_wp2
      go_ret
      exact ⟨rfl, below_drewN (((Below.refl _ _).alloc (Nat.le_refl _) _).alloc (by simp) _) _⟩

end Go.Proofs.Qxb6605173aMods
