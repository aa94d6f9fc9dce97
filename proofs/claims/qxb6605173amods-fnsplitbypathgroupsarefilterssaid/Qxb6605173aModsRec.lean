/-
  RECORDS IN MEMORY: rows of {Addr string; Path []string; Weight uint32}, three cells each.
-/
import Derived.Test.Qxb6605173aModsTab
namespace Go.Proofs.Qxb6605173aMods
open Go.RowKit
set_option linter.unusedVariables false
set_option linter.unusedSimpArgs false

/-- One record: the address's text; the path's slice and its strings; the weight. -/
structure RC where
  ad : ByteArray
  pa : Option Addr
  pl : Nat
  pc : Nat
  ps : Nat → ByteArray
  wt : Int

/-- The path's slice leads to its strings. -/
structure PathAt (w : World) (r : RC) : Prop where
  le : r.pl ≤ r.pc
  cap : r.pc ≤ maxLen
  nil : r.pa = none → r.pl = 0 ∧ r.pc = 0
  pos : 0 < r.pl → ∃ pb po, r.pa = some ⟨pb, po, none⟩ ∧ pb < w.heap.size ∧ ∀ j, j < r.pl → w.cell? ⟨pb, po + j, none⟩ = some (.string (r.ps j))
  size : ∀ j, j < r.pl → (r.ps j).size ≤ maxLen

/-- A row of n records from ⟨b, off⟩ on. -/
structure SRow (w : World) (b off n : Nat) (R : Nat → RC) : Prop where
  lt : b < w.heap.size
  c0 : ∀ i, i < n → w.cell? ⟨b, off + i * 3, none⟩ = some (.string (R i).ad)
  c1 : ∀ i, i < n → w.cell? ⟨b, off + i * 3 + 1, none⟩ = some (.slice (R i).pa (R i).pl (R i).pc)
  c2 : ∀ i, i < n → w.cell? ⟨b, off + i * 3 + 2, none⟩ = some (.int .u32 (R i).wt)
  path : ∀ i, i < n → PathAt w (R i)

theorem PathAt.keep {w w' : World} {r : RC} (h : PathAt w r) (hb : Below w.heap.size w w') : PathAt w' r :=
  ⟨h.le, h.cap, h.nil, fun h0 => by
    obtain ⟨pb, po, h1, h2, h3⟩ := h.pos h0
    exact ⟨pb, po, h1, Nat.lt_of_lt_of_le h2 hb.size, fun j hj => (hb.cell (p := ⟨pb, po + j, none⟩) h2).trans (h3 j hj)⟩, h.size⟩
theorem SRow.keep {w w' : World} {b off n : Nat} {R : Nat → RC} (h : SRow w b off n R) (hb : Below w.heap.size w w') : SRow w' b off n R :=
  ⟨Nat.lt_of_lt_of_le h.lt hb.size, fun i hi => (hb.cell (p := ⟨b, off + i * 3, none⟩) h.lt).trans (h.c0 i hi), fun i hi => (hb.cell (p := ⟨b, off + i * 3 + 1, none⟩) h.lt).trans (h.c1 i hi),
    fun i hi => (hb.cell (p := ⟨b, off + i * 3 + 2, none⟩) h.lt).trans (h.c2 i hi), fun i hi => (h.path i hi).keep hb⟩

/-- Some bool. -/
def IsB (e : Ending) : Prop := ∃ x, e = .returned (.bool x)

set_option maxRecDepth 100000 in
set_option maxHeartbeats 1000000 in
/-- The guard (6) comes back with a bool. -/
theorem zz6_any (b off n cap : Nat) (R : Nat → RC) (w : World) (hn : n ≤ cap) (hm : cap ≤ maxLen) (hR : SRow w b off n R) :
    Calls Trym.prog 6 #[.slice (some ⟨b, off, none⟩) n cap] w fun e w' => IsB e ∧ w = w' := by
  unfold maxLen at hm
  by_cases hbig : n ≤ 1048576
  · have hq1 : decide ((1048576 : Int) < (n : Int)) = false := decide_eq_false (by omega)
    go_enter Trym.func6, Trym.ntmps6
    go_wp2
    go_loop [3, 4, 5] (fun z i _ => ∃ (k : Nat) (zz : Int), k ≤ n ∧ z = .int .i64 zz ∧ i = .int .i64 k) (fun _ i _ => n - (intOf i).toNat)
    case atStart => exact ⟨0, _, Nat.zero_le _, rfl, rfl⟩
    case round =>
      obtain ⟨k, zz, hk, rfl, rfl⟩ := hrel
      by_cases hlt : k < n
      · have hc0 := hR.c0 k hlt
        have hc1 := hR.c1 k hlt
        have hP := hR.path k hlt
        generalize R k = r at *
        go_wp2
        · go_ret
          exact ⟨⟨_, rfl⟩, rfl⟩
        · go_ret
          exact ⟨⟨_, rfl⟩, rfl⟩
        · go_ret
          exact ⟨⟨_, rfl⟩, rfl⟩
        · go_ret
          exact ⟨⟨_, rfl⟩, rfl⟩
        · have hpl : (r.pl : Int) ≤ 1048576 := by assumption
          go_loop [3, 5] (fun z i => ∃ (q : Nat) (zz : Int), q ≤ r.pl ∧ z = .int .i64 zz ∧ i = .int .i64 q) (fun _ i => r.pl - (intOf i).toNat)
          case atStart => exact ⟨0, _, Nat.zero_le _, rfl, rfl⟩
          case round =>
            obtain ⟨q, yy, hq, rfl, rfl⟩ := hrel
            by_cases hlq : q < r.pl
            · obtain ⟨pb, po, hpa, hpb, hpc⟩ := hP.pos (by omega)
              rw [hpa] at hc1
              have hcs := hpc q hlq
              obtain ⟨sq, hsq⟩ : ∃ sq, sq = r.ps q := ⟨_, rfl⟩
              rw [← hsq] at hcs
              clear hsq hpa hpc
              go_wp2
              · go_ret
                exact ⟨⟨_, rfl⟩, rfl⟩
              · go_ret
                exact ⟨⟨_, rfl⟩, rfl⟩
              · go_round
                case rel => exact ⟨q + 1, _, by omega, rfl, by go_num⟩
                case measure => simp [intOf]; omega
            · go_wp2
              go_round
              case rel => exact ⟨k + 1, _, by omega, rfl, by go_num⟩
              case measure => simp [intOf]; omega
      · go_wp2
        go_ret
        exact ⟨⟨_, rfl⟩, rfl⟩
  · go_enter Trym.func6, Trym.ntmps6
    go_wp2
    go_ret
    exact ⟨⟨_, rfl⟩, rfl⟩

end Go.Proofs.Qxb6605173aMods
