/-
  THE PLAIN LAW of 'FnLiteralEndMatchesLongestWord': no Go in sight.
-/
namespace Go.Proofs.Qxb6603780aMods

/-- The length of the longest common head. -/
def cpl : List Int → List Int → Nat
  | z :: zs, c :: cs => if z = c then cpl zs cs + 1 else 0
  | _, _ => 0

theorem cpl_left (zs cs : List Int) : cpl zs cs ≤ zs.length := by
  induction zs generalizing cs with
  | nil => simp [cpl]
  | cons z zs ih =>
    cases cs with
    | nil => simp [cpl]
    | cons c cs => simp only [cpl]; split <;> simp [ih cs]

theorem cpl_right (zs cs : List Int) : cpl zs cs ≤ cs.length := by
  induction zs generalizing cs with
  | nil => simp [cpl]
  | cons z zs ih =>
    cases cs with
    | nil => simp [cpl]
    | cons c cs => simp only [cpl]; split <;> simp [ih cs]

theorem cpl_same (zs cs : List Int) (m : Nat) (h : m < cpl zs cs) : zs.getD m 0 = cs.getD m 0 := by
  induction zs generalizing cs m with
  | nil => simp [cpl] at h
  | cons z zs ih =>
    cases cs with
    | nil => simp [cpl] at h
    | cons c cs =>
      simp only [cpl] at h
      split at h
      · cases m with
        | zero => simpa
        | succ m => simpa using ih cs m (by omega)
      · omega

theorem cpl_stop (zs cs : List Int) (h1 : cpl zs cs < zs.length) (h2 : cpl zs cs < cs.length) : zs.getD (cpl zs cs) 0 ≠ cs.getD (cpl zs cs) 0 := by
  induction zs generalizing cs with
  | nil => simp at h1
  | cons z zs ih =>
    cases cs with
    | nil => simp at h2
    | cons c cs =>
      simp only [cpl] at h1 h2 ⊢
      split at h1
      · rename_i e
        rw [if_pos e] at h2 ⊢
        simpa using ih cs (by simpa using h1) (by simpa using h2)
      · rename_i e
        rw [if_neg e]
        simpa using e

/-- The word's end and status: what both readers say of the word 'cs' in the text 'zs' of n bytes. -/
def verdict (n at_ m L : Nat) : Nat × Nat := if m = L then (at_ + m, 0) else if at_ + m = n then (at_ + m, 1) else (at_ + m, 2)

theorem getD_drop (zs : List Int) (a i : Nat) : (zs.drop a).getD i 0 = zs.getD (a + i) 0 := by
  simp [List.getD_eq_getElem?_getD]

def wTrue : List Int := [116, 114, 117, 101]
def wFalse : List Int := [102, 97, 108, 115, 101]
def wNull : List Int := [110, 117, 108, 108]

theorem cpl_zero (zs cs : List Int) (h : zs.getD 0 0 ≠ cs.getD 0 0) : cpl zs cs = 0 := by
  cases zs <;> cases cs <;> simp [cpl] at h ⊢
  exact h

/-- One step of the search for the longest match. -/
def better (p : Nat × Nat) (m L : Nat) : Nat × Nat := if p.1 < m then (m, L) else p

end Go.Proofs.Qxb6603780aMods
