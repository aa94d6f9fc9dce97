/-
  TABLES IN MEMORY: a block that the call itself made, told by a function of the index.
-/
import Derived.Test.Qxb6605173aModsRows
import Derived.WalkKit
import Derived.WalkSpells
import Derived.WalkLawsBesides
import Derived.WideShapes
import Derived.Deep.Draws
import Derived.Deep.QuietTactic
import Derived.BigQuiet
import Derived.Laws.CopyOwn
import Derived.RegionTactic
namespace Go.Proofs.Qxb6605173aMods
open Go.RowKit
set_option linter.unusedVariables false
set_option linter.unusedSimpArgs false

theorem hide {p : Prop} (h : p) : Hid p := h
theorem ret_bool {a b : Bool} (h : a = b) : Ending.returned (.bool a) = .returned (.bool b) := by rw [h]
theorem ret_int {k : IntKind} {a b : Int} (h : a = b) : Ending.returned (.int k a) = .returned (.int k b) := by rw [h]

theorem Trym.info3 : (Trym.prog.info? 3).map (fun i => (i.zero, i.size, i.bytes)) = some (some (.int .i64 0), 1, 8) := by kernel_rfl
theorem Trym.info4 : (Trym.prog.info? 4).map (fun i => (i.zero, i.size, i.bytes)) = some (some (.bool false), 1, 1) := by kernel_rfl

/-- Block g is a row of n cells of type t; cell x holds 'f x'. -/
def TabV (w : World) (g : Nat) (t : TypeId) (n : Nat) (f : Nat → Value) : Prop := w.heap[g]? = some (.cells ((List.range n).map f).toArray t (0, 0))

/-- A function turned at one place. -/
def upd {α : Type} (f : Nat → α) (i : Nat) (v : α) : Nat → α := fun x => if x = i then v else f x

section
variable {w w' : World} {g n i : Nat} {t : TypeId} {f : Nat → Value}

theorem TabV.cell (h : TabV w g t n f) (hi : i < n) : w.cell? ⟨g, i, none⟩ = some (f i) := by
  rw [cell_of_row w g i _ t (0, 0) h]
  simp [hi]
theorem TabV.froz (h : TabV w g t n f) (i : Nat) : w.frozen? ⟨g, i, none⟩ = false := frozen_of_row w g i _ t h
theorem TabV.set (h : TabV w g t n f) (i : Nat) (v : Value) : TabV (w.setCell ⟨g, i, none⟩ v) g t n (upd f i v) := by
  have := heap_setCell_same w g i _ t v h
  unfold TabV
  rw [this]
  congr 2
  apply Array.ext'
  simp only [Array.toList_setIfInBounds]
  apply List.ext_getElem?
  intro j
  rw [List.getElem?_set]
  by_cases hj : j < n
  · by_cases e : i = j
    · subst e; simp [hj, upd]
    · have e' : ¬ j = i := fun h => e h.symm
      simp [hj, e, upd, e']
  · by_cases e : i = j
    · subst e; simp [hj]
    · simp [hj, e]
theorem TabV.other (h : TabV w g t n f) (a : Addr) (ha : a.block ≠ g) (v : Value) : TabV (w.setCell a v) g t n f := by
  unfold TabV
  rw [heap_setCell_other w a g v (fun e => ha e.symm)]
  exact h
theorem TabV.congr {f' : Nat → Value} (h : TabV w g t n f) (e : ∀ x, x < n → f x = f' x) : TabV w g t n f' := by
  unfold TabV at h ⊢
  rw [h]
  congr 2
  congr 1
  apply List.map_congr_left
  intro x hx
  exact e x (by simpa using hx)
theorem TabV.keep (h : TabV w g t n f) {B : Nat} (hb : Below B w w') (hg : g < B) : TabV w' g t n f := by
  unfold TabV
  rw [hb.block g hg]
  exact h
theorem TabV.drewN (h : TabV w g t n f) (k : Nat) : TabV (w.drewN k) g t n f := h
theorem TabV.lt (h : TabV w g t n f) : g < w.heap.size := by
  unfold TabV at h
  rcases Nat.lt_or_ge g w.heap.size with h' | h'
  · exact h'
  · rw [Array.getElem?_eq_none h'] at h; cases h
end

theorem below_drewN {B : Nat} {w w1 : World} (h : Below B w w1) (n : Nat) : Below B w (w1.drewN n) := h.trans ⟨rfl, rfl, rfl, Nat.le_refl _, fun _ _ => rfl⟩

/-- What 'make' leaves, as a table. -/
theorem tab_of_made {w : World} {base e n g : Nat} {z : Value} (h : w.ownsRow base e 1 (.slice (some ⟨g, 0, none⟩) n n) n (madeCells #[z] n).toList) : TabV w g e n (fun _ => z) := by
  rcases h.2 with ⟨h', _⟩ | ⟨g', cap', cur, h', _, hg, _, _, hs, htake⟩
  · simp at h'
  · simp only [Value.slice.injEq, Option.some.injEq, Addr.mk.injEq, and_true, true_and] at h'
    obtain ⟨rfl, rfl⟩ := h'
    unfold TabV
    rw [hg]
    congr 2
    apply Array.ext'
    rw [List.take_of_length_le (by simp; omega)] at htake
    rw [htake, toList_madeCells_one]
    apply List.ext_getElem?
    intro j
    simp only [List.getElem?_replicate, List.getElem?_map]
    by_cases hj : j < n <;> simp [hj]

/-- A row that came in and holds a cell at least: its address written out. -/
theorem row_plain {k : IntKind} {w : World} {x : Addr} {zs : List Int} (h : ∀ i, i < zs.length → w.cell? (x.add i) = some (.int k (zs.getD i 0))) (h0 : 0 < zs.length) :
    ∃ b off, x = ⟨b, off, none⟩ ∧ b < w.heap.size ∧ ∀ i, i < zs.length → w.cell? ⟨b, off + i, none⟩ = some (.int k (zs.getD i 0)) := by
  obtain ⟨b, off, spot⟩ := x
  have hspot : spot = none := by simpa [Addr.add] using World.cell?_spot (h 0 h0)
  subst hspot
  have h' : ∀ j, j < zs.length → w.cell? ⟨b, off + j, none⟩ = some (.int k (zs.getD j 0)) := fun j hj => by rw [← WideShapes.add_plain]; exact h j hj
  exact ⟨b, off, rfl, World.block_lt_of_cell? w ⟨b, off + 0, none⟩ (h' 0 h0), h'⟩

end Go.Proofs.Qxb6605173aMods
