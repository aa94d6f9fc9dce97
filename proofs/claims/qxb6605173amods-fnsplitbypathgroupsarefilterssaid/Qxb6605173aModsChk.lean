/-
  SMALL LAWS for the checking loops of FnSplitByPathGroupsAreFilters.
-/
import Derived.Test.Qxb6605173aModsSeen
namespace Go.Proofs.Qxb6605173aMods
open Go.RowKit Go.Maps
set_option linter.unusedVariables false
set_option linter.unusedSimpArgs false

theorem SRow.drewN {w : World} {b off n : Nat} {R : Nat → RC} (h : SRow w b off n R) (k : Nat) : SRow (w.drewN k) b off n R := h.keep (below_drewN (Below.refl _ _) k)

theorem ownsRow_below {w w' : World} {base : Nat} {e : TypeId} {size n : Nat} {v : Value} {xs : List Value} (h : w.ownsRow base e size v n xs) (hb : Below w.heap.size w w') : w'.ownsRow base e size v n xs := by
  refine ⟨h.1, ?_⟩
  rcases h.2 with h' | ⟨g, cap, cur, hv, hbase, hg, rest⟩
  · exact .inl h'
  · refine .inr ⟨g, cap, cur, hv, hbase, ?_, rest⟩
    rw [hb.block g (Array.getElem?_eq_some_iff.1 hg).1]
    exact hg
theorem ownsMap_below {w w' : World} {b n : Nat} {D : DataW Value} (h : w.ownsMap Trym.prog 9 RV b n D) (hb : Below w.heap.size w w') : w'.ownsMap Trym.prog 9 RV b n D := by
  have hlt := h.lt
  obtain ⟨es, clock, h1, h2⟩ := h
  exact ⟨es, clock, by rw [hb.block b hlt]; exact h1, h2⟩
theorem MInv.keep {w w' : World} {M : Nat} {R : Nat → RC} {k : Nat} {D : DataW Value} (h : MInv w M R k D) (hb : Below w.heap.size w w') : MInv w' M R k D :=
  ⟨ownsMap_below h.own hb, fun L => by obtain ⟨V, h1, h2⟩ := h.grp L; exact ⟨V, h1, ownsRow_below h2 hb⟩, h.has, h.ne, h.size⟩

/-- 'v, ok := m[k]' where the key is there. -/
theorem wpList_lookup_held_ok {P : Program} (w : World) {ops : Array Oper} {rest : List Oper} {o : Oper} {a : Act} {Q : Exit → Act → World → Prop}
    (hg : o.guard = none) (m x : Operand) (t : TypeId) (hop : o.op = Op.lookup t m x true)
    (k e : TypeId) (K : Keyed P k) (ht : P.underlying t = some (.map k e)) (z : Value) (hz : (zeroValue e).run P w = .ok z w) (b n : Nat) (D : DataW Value)
    (hm : a.eval m = .map (some b)) (hown : w.ownsMap P k RV b n D) (key : Value) (kl : Lit) (hx : a.eval x = key) (hkey : keyOf P k key = some kl) (v : Value) (hv : D.atKey kl (.held z) = .held v)
    (hh : Maps.has D kl = true) (hK : wpList P ops Q rest (a.put o.dst (.tuple #[v, .bool true])) w) :
    wpList P ops Q (o :: rest) a w := by
  refine wpList_plain hg fun K' hK' => ?_
  obtain ⟨v', ps, hrun, hat⟩ := hown.look_ok K ht hz (zd := .held z) (zp := []) rfl hkey
  have e : v' = v := by
    unfold RV at hat
    rw [hv] at hat
    simp only [Option.some.injEq, Prod.mk.injEq, DataW.held.injEq] at hat
    exact hat.1
  subst e
  rw [hh] at hrun
  unfold Oper.wp
  simp [execOp, hop, hm, hx, hrun, Result.andThen]
  exact hK' _ _ hK

theorem nmB_same {r r' : Nat → RC} {i : Nat} (h : SameR (r i) (r' i)) (L : List UInt8) : nmB r' L i = nmB r L i := by
  unfold nmB
  rw [h.pl]
  by_cases hp : 0 < (r i).pl
  · rw [h.ps 0 hp]
  · simp [hp]
theorem idx_same {R R' : Nat → RC} {n : Nat} (h : ∀ i, i < n → SameR (R i) (R' i)) (k : Nat) (hk : k ≤ n) (L : List UInt8) : idx R' k L = idx R k L := by
  induction k with
  | zero => rfl
  | succ k ih => rw [idx_succ, idx_succ, ih (by omega), nmB_same (h k (by omega))]
theorem seen_same {R R' : Nat → RC} {n : Nat} (h : ∀ i, i < n → SameR (R i) (R' i)) (k : Nat) (hk : k ≤ n) (L : List UInt8) : seenB R k L = seenB R' k L := by
  unfold seenB
  rw [idx_same h k hk]

/-- The list up to j is a head of the list up to n. -/
theorem idx_head (R : Nat → RC) (L : List UInt8) (j d : Nat) : ∃ t, idx R (j + d) L = idx R j L ++ t := by
  induction d with
  | zero => exact ⟨[], by simp⟩
  | succ d ih =>
    obtain ⟨t, h⟩ := ih
    refine ⟨t ++ (if nmB R L (j + d) then [j + d] else []), ?_⟩
    rw [show j + (d + 1) = j + d + 1 by omega, idx_succ, h, List.append_assoc]
/-- Where j stands in the list. -/
theorem idx_at {R : Nat → RC} {L : List UInt8} {j n : Nat} (hj : j < n) (hn : nmB R L j = true) : ∃ t, idx R n L = idx R j L ++ j :: t := by
  obtain ⟨t, h⟩ := idx_head R L (j + 1) (n - (j + 1))
  rw [show j + 1 + (n - (j + 1)) = n by omega, idx_succ, hn] at h
  exact ⟨t, by rw [h]; simp⟩
theorem idx_at_lt {R : Nat → RC} {L : List UInt8} {j n : Nat} (hj : j < n) (hn : nmB R L j = true) : (idx R j L).length < (idx R n L).length := by
  obtain ⟨t, h⟩ := idx_at hj hn
  rw [h]
  simp

theorem rowOf_len (R : Nat → RC) (l : List Nat) : (rowOf R l).length = l.length * 3 := by
  induction l with
  | nil => rfl
  | cons a l ih =>
    show (cells3 (R a) ++ rowOf R l).length = _
    rw [List.length_append, ih]
    simp [cells3]
    omega
theorem rowOf_at (R : Nat → RC) (l t : List Nat) (j c : Nat) (hc : c < 3) : (rowOf R (l ++ j :: t))[l.length * 3 + c]? = (cells3 (R j))[c]? := by
  have e : rowOf R (l ++ j :: t) = rowOf R l ++ (cells3 (R j) ++ rowOf R t) := by simp [rowOf]
  have h3 : (cells3 (R j)).length = 3 := rfl
  rw [e, List.getElem?_append_right (by rw [rowOf_len]; omega), rowOf_len, List.getElem?_append_left (by omega)]
  congr 1
  omega

/-- The three cells of the record j in its group's row. -/
theorem grp_cells {w : World} {base g cap n j : Nat} {R : Nat → RC} {L : List UInt8} (h : w.ownsRow base 30 3 (.slice (some ⟨g, 0, none⟩) (idx R n L).length cap) (idx R n L).length (rowOf R (idx R n L))) (hj : j < n) (hn : nmB R L j = true) :
    w.cell? ⟨g, (idx R j L).length * 3, none⟩ = some (.string (R j).ad) ∧ w.cell? ⟨g, (idx R j L).length * 3 + 1, none⟩ = some (.slice (tailA (R j)) ((R j).pl - 1) ((R j).pc - 1)) ∧
      w.cell? ⟨g, (idx R j L).length * 3 + 2, none⟩ = some (.int .u32 (R j).wt) := by
  have hlt := idx_at_lt hj hn
  obtain ⟨t, e⟩ := idx_at hj hn
  have k0 := h.cellAt ((idx R j L).length * 3) (by omega)
  have k1 := h.cellAt ((idx R j L).length * 3 + 1) (by omega)
  have k2 := h.cellAt ((idx R j L).length * 3 + 2) (by omega)
  have r0 := rowOf_at R (idx R j L) t j 0 (by omega)
  have r1 := rowOf_at R (idx R j L) t j 1 (by omega)
  have r2 := rowOf_at R (idx R j L) t j 2 (by omega)
  rw [e] at k0 k1 k2
  rw [Nat.add_zero] at r0
  rw [k0, k1, k2, r0, r1, r2]
  exact ⟨rfl, rfl, rfl⟩

theorem cnt_same {R : Nat → RC} {k : Nat} (h : (R k).pl = 0 ∨ seenB R k ((R k).ps 0).data.toList = true) : cnt R (k + 1) = cnt R k := by
  simp only [cnt]
  rw [if_neg]
  intro ⟨h1, h2⟩
  rcases h with h | h
  · omega
  · unfold seenB at h
    simp [h2] at h
theorem cnt_up {R : Nat → RC} {k : Nat} (hp : 0 < (R k).pl) (h : seenB R k ((R k).ps 0).data.toList = false) : cnt R (k + 1) = cnt R k + 1 := by
  simp only [cnt]
  rw [if_pos]
  refine ⟨hp, ?_⟩
  unfold seenB at h
  simpa using h
theorem cnt_le (R : Nat → RC) (k : Nat) : cnt R k ≤ k := by
  induction k with
  | zero => exact Nat.le_refl _
  | succ k ih =>
    simp only [cnt]
    split <;> omega

/-- The group of a name that is there: a slice with an address. -/
theorem grp_slice {w : World} {base n : Nat} {V : Value} {xs : List Value} (h : w.ownsRow base 30 3 V n xs) (hn : 0 < n) : ∃ g cap, V = .slice (some ⟨g, 0, none⟩) n cap := by
  rcases h.2 with ⟨_, h'⟩ | ⟨g, cap, cur, hv, _⟩
  · omega
  · exact ⟨g, cap, hv⟩

end Go.Proofs.Qxb6605173aMods
