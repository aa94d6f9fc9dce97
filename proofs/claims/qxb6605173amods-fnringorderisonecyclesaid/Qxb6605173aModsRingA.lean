/-
  THE WALK of FnRingOrderNextByFirstAppearance (4), and the guards (11, 13).
-/
import Derived.Test.Qxb6605173aModsRing
namespace Go.Proofs.Qxb6605173aMods
open Go.RowKit
set_option linter.unusedVariables false
set_option linter.unusedSimpArgs false

theorem zz11_any (a : Option Addr) (len cap : Nat) (n : Int) (w : World) (hm : len ≤ maxLen) :
    Calls Trym.prog 11 #[.slice a len cap, .int .i64 n] w fun e w' => e = .returned (.bool (decide (len ≤ 1048576))) ∧ w = w' := by
  unfold maxLen at hm
  by_cases h : len ≤ 1048576
  · go_enter Trym.func11, Trym.ntmps11
    go_wp2
    go_ret
    exact ⟨by simp [h], rfl⟩
  · go_enter Trym.func11, Trym.ntmps11
    go_wp2
    go_ret
    exact ⟨by simp [h], rfl⟩

theorem zz13_any (a : Option Addr) (len cap : Nat) (n : Int) (w : World) (hm : len ≤ maxLen) :
    Calls Trym.prog 13 #[.slice a len cap, .int .i64 n] w fun e w' => e = .returned (.bool (decide (len ≤ 1048576))) ∧ w = w' := by
  unfold maxLen at hm
  by_cases h : len ≤ 1048576
  · go_enter Trym.func13, Trym.ntmps13
    go_wp2
    go_ret
    exact ⟨by simp [h], rfl⟩
  · go_enter Trym.func13, Trym.ntmps13
    go_wp2
    go_ret
    exact ⟨by simp [h], rfl⟩

/-- The numbers as indices. -/
def nats (zs : List Int) (m : Nat) : List Nat := (zs.take m).map Int.toNat
theorem nats_len {zs : List Int} {m : Nat} (h : m ≤ zs.length) : (nats zs m).length = m := by simp [nats]; omega
theorem nats_at {zs : List Int} {m n : Nat} (h : m ≤ zs.length) (hr : ∀ j, j < m → 0 ≤ zs.getD j 0 ∧ zs.getD j 0 < (n : Int)) (i : Nat) (hi : i < m) : (((nats zs m).getD i 0 : Nat) : Int) = zs.getD i 0 := by
  have := hr i hi
  have hz : i < zs.length := by omega
  simp only [nats, List.getD_eq_getElem?_getD, List.getElem?_map, List.getElem?_take, hi, if_true, List.getElem?_eq_getElem hz, Option.map_some, Option.getD_some] at this ⊢
  omega
theorem nats_lt {zs : List Int} {m n : Nat} (h : m ≤ zs.length) (hr : ∀ j, j < m → 0 ≤ zs.getD j 0 ∧ zs.getD j 0 < (n : Int)) : ∀ o ∈ nats zs m, o < n := by
  intro o ho
  obtain ⟨i, hi, rfl⟩ := List.mem_iff_getElem.1 ho
  have hi' : i < m := by rw [nats_len h] at hi; exact hi
  have e := nats_at h hr i hi'
  have := hr i hi'
  rw [List.getD_eq_getElem?_getD, List.getElem?_eq_getElem hi, Option.getD_some] at e
  omega

/-- What 'copy' leaves in a row as long as its source. -/
theorem own_of_copy {w : World} {g m n : Nat} {zs : List Int} {z : Value} (h : m ≤ zs.length) (hr : ∀ j, j < m → 0 ≤ zs.getD j 0 ∧ zs.getD j 0 < (n : Int))
    (hc : w.heap[g]? = some (.cells (splice ((List.range m).map (fun _ => z)) 0 ((zs.take m).map (Value.int .i64))).toArray 3 (0, 0))) : OwnT w g (nats zs m) := by
  unfold OwnT TabV
  rw [hc, nats_len h]
  congr 2
  congr 1
  unfold splice
  have hl : (zs.take m).length = m := by simp; omega
  rw [List.take_zero, List.nil_append, List.drop_eq_nil_of_le (by simp; omega), List.append_nil]
  apply List.ext_getElem?
  intro j
  by_cases hj : j < m
  · have e := nats_at h hr j hj
    have hz : j < zs.length := by omega
    have e2 : zs.getD j 0 = zs[j] := by simp [List.getD_eq_getElem?_getD, List.getElem?_eq_getElem hz]
    simp only [List.getElem?_map, List.getElem?_take, hj, if_true, List.getElem?_range hj, Option.map_some, List.getElem?_eq_getElem hz, e, e2]
  · rw [List.getElem?_eq_none (by simp; omega), List.getElem?_eq_none (by simp; omega)]

/-- The source of the copy, in whatever world that has left the old memory alone. -/
theorem copy_src {w w1 : World} {b off m g : Nat} {zs : List Int} (h : m ≤ zs.length) (hx : b < w.heap.size) (hc : ∀ i, i < zs.length → w.cell? ⟨b, off + i, none⟩ = some (.int .i64 (zs.getD i 0))) (hb : Below w.heap.size w w1) :
    0 < ((zs.take m).map (Value.int .i64)).length → (some (⟨g, 0, none⟩ : Addr)) = some ⟨g, 0, none⟩ ∧ ∃ ad : Addr, (some (⟨b, off, none⟩ : Addr)) = some ad ∧ ∀ j v, ((zs.take m).map (Value.int .i64))[j]? = some v → w1.cell? (ad.add j) = some v := by
  intro _
  refine ⟨rfl, _, rfl, ?_⟩
  intro j v hv
  have hj : j < m := by
    have := (List.getElem?_eq_some_iff.1 hv).1
    simp at this
    omega
  have hz : j < zs.length := by omega
  rw [WideShapes.add_plain, hb.cell hx, hc j hz]
  simp only [List.getElem?_map, List.getElem?_take, hj, if_true, List.getElem?_eq_getElem hz, Option.map_some] at hv
  simp only [List.getD_eq_getElem?_getD, List.getElem?_eq_getElem hz, Option.getD_some]
  exact hv
theorem copy_len {m : Nat} {zs : List Int} (h : m ≤ zs.length) : ((zs.take m).map (Value.int .i64)).length = Nat.min m m := by
  have : Nat.min m m = m := Nat.min_self m
  rw [this]; simp; omega
theorem copy_fit {m : Nat} {zs : List Int} (h : m ≤ zs.length) (z : Value) : 0 + ((zs.take m).map (Value.int .i64)).length ≤ ((List.range m).map (fun _ => z)).length := by
  simp; omega

end Go.Proofs.Qxb6605173aMods
