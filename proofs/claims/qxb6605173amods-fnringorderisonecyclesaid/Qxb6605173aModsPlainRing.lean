/-
  PLAIN LISTS of the ring laws: no Go in sight.
-/
namespace Go.Proofs.Qxb6605173aMods
set_option linter.unusedVariables false
set_option linter.unusedSimpArgs false

/-- The owners in the order of their first entries. -/
def ddStep (acc : List Nat) (o : Nat) : List Nat := if o ∈ acc then acc else acc ++ [o]
def dd (os : List Nat) : List Nat := os.foldl ddStep []

theorem take_snoc (os : List Nat) (k : Nat) (h : k < os.length) : os.take (k + 1) = os.take k ++ [os.getD k 0] := by
  rw [List.take_succ_eq_append_getElem h]
  simp [List.getD_eq_getElem?_getD, List.getElem?_eq_getElem h]

theorem dd_snoc (l : List Nat) (o : Nat) : dd (l ++ [o]) = ddStep (dd l) o := by simp [dd]
theorem dd_take (os : List Nat) (k : Nat) (h : k < os.length) : dd (os.take (k + 1)) = ddStep (dd (os.take k)) (os.getD k 0) := by
  rw [take_snoc os k h, dd_snoc]

theorem mem_ddStep (acc : List Nat) (o x : Nat) : x ∈ ddStep acc o ↔ x ∈ acc ∨ x = o := by
  unfold ddStep
  split
  · rename_i h
    constructor
    · exact .inl
    · rintro (h' | rfl)
      · exact h'
      · exact h
  · simp

theorem mem_dd (l : List Nat) (x : Nat) : x ∈ dd l ↔ x ∈ l := by
  have : ∀ (l acc : List Nat), x ∈ l.foldl ddStep acc ↔ x ∈ acc ∨ x ∈ l := by
    intro l
    induction l with
    | nil => simp
    | cons o l ih =>
      intro acc
      rw [List.foldl_cons, ih, mem_ddStep]
      simp only [List.mem_cons]
      exact or_assoc
  have h := this l []
  simpa [dd] using h

theorem nodup_ddStep {acc : List Nat} (h : acc.Nodup) (o : Nat) : (ddStep acc o).Nodup := by
  unfold ddStep
  split
  · exact h
  · rename_i hn
    rw [List.nodup_append]
    refine ⟨h, by simp, ?_⟩
    intro a ha b hb
    simp at hb
    subst hb
    intro e
    subst e
    exact hn ha

theorem nodup_dd (l : List Nat) : (dd l).Nodup := by
  have : ∀ (l acc : List Nat), acc.Nodup → (l.foldl ddStep acc).Nodup := by
    intro l
    induction l with
    | nil => intro acc h; exact h
    | cons o l ih => intro acc h; exact ih _ (nodup_ddStep h o)
  exact this l [] List.nodup_nil

/-- What follows x in a list. -/
def nx : List Nat → Nat → Option Nat
  | [], _ => none
  | a :: r, x => if x = a then r.head? else nx r x

theorem nx_not (pre : List Nat) (l x : Nat) (h : x ∉ pre) : nx (pre ++ [l]) x = none := by
  induction pre with
  | nil => simp [nx]
  | cons a r ih =>
    simp only [List.mem_cons, not_or] at h
    simp only [List.cons_append, nx]
    rw [if_neg h.1, ih h.2]

theorem nx_mem (pre : List Nat) (l x : Nat) (h : x ∈ pre) : ∃ y, nx (pre ++ [l]) x = some y ∧ y ∈ pre ++ [l] := by
  induction pre with
  | nil => simp at h
  | cons a r ih =>
    simp only [List.cons_append, nx]
    by_cases e : x = a
    · rw [if_pos e]
      cases r with
      | nil => exact ⟨l, rfl, by simp⟩
      | cons b r => exact ⟨b, rfl, by simp⟩
    · rw [if_neg e]
      obtain ⟨y, h1, h2⟩ := ih (by simpa [e] using h)
      exact ⟨y, h1, by simp only [List.mem_cons]; exact .inr h2⟩

theorem nx_snoc (pre : List Nat) (l o x : Nat) (hl : l ∉ pre) : nx (pre ++ [l] ++ [o]) x = if x = l then some o else nx (pre ++ [l]) x := by
  induction pre with
  | nil =>
    simp only [List.nil_append, List.cons_append, nx, List.head?_cons, List.head?_nil]
    split <;> simp
  | cons a r ih =>
    simp only [List.mem_cons, not_or] at hl
    simp only [List.cons_append, nx]
    by_cases e : x = a
    · subst e
      rw [if_pos rfl, if_neg (fun h => hl.1 h.symm), if_pos rfl]
      cases r <;> rfl
    · rw [if_neg e, if_neg e, ih hl.2]

theorem nx_in (l : List Nat) (x y : Nat) (h : nx l x = some y) : y ∈ l := by
  induction l with
  | nil => simp [nx] at h
  | cons a r ih =>
    simp only [nx] at h
    split at h
    · have := List.mem_of_head? h
      simp [this]
    · simp [ih h]

/-- 'after' as a list of numbers, -1 where nothing follows. -/
def lnk (ds : List Nat) (x : Nat) : Int := match nx ds x with | some y => (y : Int) | none => -1

theorem lnk_neg (ds : List Nat) (x : Nat) : lnk ds x < 0 ↔ nx ds x = none := by
  unfold lnk
  cases nx ds x <;> simp <;> omega

/-- The successor's number; 'first' where nothing follows. -/
def sc (ds : List Nat) (first x : Nat) : Nat := (nx ds x).getD first

theorem dd_one (os : List Nat) (h : 0 < os.length) : dd (os.take 1) = [] ++ [os.getD 0 0] := by
  rw [dd_take os 0 h]
  rfl

/-- The list at round k of ringOrder's loop: at round 0 already the first owner. -/
def dk (os : List Nat) (k : Nat) : List Nat := dd (os.take (max k 1))

theorem dk_keep {os : List Nat} {k : Nat} (h : k < os.length) (hm : os.getD k 0 ∈ dk os k) : dk os (k + 1) = dk os k := by
  unfold dk at hm ⊢
  cases k with
  | zero => rfl
  | succ k =>
    rw [show max (k + 1 + 1) 1 = k + 1 + 1 by omega, dd_take os (k + 1) h]
    rw [show max (k + 1) 1 = k + 1 by omega] at hm ⊢
    unfold ddStep
    rw [if_pos hm]

theorem dk_new {os : List Nat} {k : Nat} (h : k < os.length) (hm : os.getD k 0 ∉ dk os k) : dk os (k + 1) = dk os k ++ [os.getD k 0] := by
  unfold dk at hm ⊢
  cases k with
  | zero =>
    exfalso
    apply hm
    show os.getD 0 0 ∈ dd (os.take 1)
    rw [dd_one os h]
    simp
  | succ k =>
    rw [show max (k + 1 + 1) 1 = k + 1 + 1 by omega, dd_take os (k + 1) h]
    rw [show max (k + 1) 1 = k + 1 by omega] at hm ⊢
    unfold ddStep
    rw [if_neg hm]

theorem dk_end (os : List Nat) (h : 0 < os.length) : dk os os.length = dd os := by
  unfold dk
  rw [show max os.length 1 = os.length by omega, List.take_length]

theorem dk_nodup (os : List Nat) (k : Nat) : (dk os k).Nodup := nodup_dd _

theorem last_not {pre : List Nat} {l : Nat} (h : (pre ++ [l]).Nodup) : l ∉ pre := by
  intro hl
  rw [List.nodup_append] at h
  exact h.2.2 l hl l (by simp) rfl

/-- The link of an owner that has come already, and is not the last. -/
theorem lnk_mem {pre : List Nat} {l o : Nat} (h : o ∈ pre) : 0 ≤ lnk (pre ++ [l]) o := by
  obtain ⟨y, h1, _⟩ := nx_mem pre l o h
  unfold lnk
  rw [h1]
  simp
theorem lnk_not {pre : List Nat} {l o : Nat} (h : o ∉ pre) : lnk (pre ++ [l]) o = -1 := by
  unfold lnk
  rw [nx_not pre l o h]
theorem lnk_snoc {pre : List Nat} {l o : Nat} (hl : l ∉ pre) (x : Nat) : lnk (pre ++ [l] ++ [o]) x = if x = l then (o : Int) else lnk (pre ++ [l]) x := by
  unfold lnk
  rw [nx_snoc pre l o x hl]
  by_cases e : x = l <;> simp [e]
theorem sc_lnk (ds : List Nat) (fo x : Nat) : ((sc ds fo x : Nat) : Int) = if lnk ds x < 0 then (fo : Int) else lnk ds x := by
  unfold sc lnk
  cases nx ds x with
  | none => simp
  | some y => simp; omega

theorem ddStep_head {acc : List Nat} (o : Nat) (h : 0 < acc.length) : (ddStep acc o).getD 0 0 = acc.getD 0 0 ∧ 0 < (ddStep acc o).length := by
  unfold ddStep
  split
  · exact ⟨rfl, h⟩
  · exact ⟨by simp [List.getD_eq_getElem?_getD, List.getElem?_append, h], by simp⟩
theorem dd_head (os : List Nat) (h : 0 < os.length) : (dd os).getD 0 0 = os.getD 0 0 := by
  cases os with
  | nil => simp at h
  | cons o r =>
    have : ∀ (l acc : List Nat), 0 < acc.length → (l.foldl ddStep acc).getD 0 0 = acc.getD 0 0 := by
      intro l
      induction l with
      | nil => intro acc _; rfl
      | cons a l ih =>
        intro acc ha
        rw [List.foldl_cons, ih _ (ddStep_head a ha).2, (ddStep_head a ha).1]
    have h1 := this r [o] (by simp)
    simpa [dd, ddStep] using h1

end Go.Proofs.Qxb6605173aMods
