/-
  THE WALK of splitByPath (14), ZZsplitByPath (8).
-/
import Derived.Test.Qxb6605173aModsClone
import Derived.Maps.Own
import Derived.Maps.OwnSet
import Derived.Maps.OwnOps
import Derived.Maps.AppendAt
import Derived.Maps.Views
namespace Go.Proofs.Qxb6605173aMods
open Go.RowKit Go.Maps
set_option linter.unusedVariables false
set_option linter.unusedSimpArgs false

/-- How a map's element is told: by the value itself. -/
def RV (v : Value) : Option (DataW Value × List MemPlace) := some (.held v, [])
def nilS : Value := .slice none 0 0

theorem keyLaw : Keyed Trym.prog 9 := string_keyed Trym.underlying9
theorem zero29 (w : World) : (zeroValue 29).run Trym.prog w = .ok nilS w := by kernel_rfl

/-- 'm[k]' in a map whose elements are told by themselves. -/
theorem wpList_lookup_held {P : Program} (w : World) {ops : Array Oper} {rest : List Oper} {o : Oper} {a : Act} {Q : Exit → Act → World → Prop}
    (hg : o.guard = none) (m x : Operand) (t : TypeId) (hop : o.op = Op.lookup t m x false)
    (k e : TypeId) (K : Keyed P k) (ht : P.underlying t = some (.map k e)) (z : Value) (hz : (zeroValue e).run P w = .ok z w) (b n : Nat) (D : DataW Value)
    (hm : a.eval m = .map (some b)) (hown : w.ownsMap P k RV b n D) (key : Value) (kl : Lit) (hx : a.eval x = key) (hkey : keyOf P k key = some kl) (v : Value) (hv : D.atKey kl (.held z) = .held v)
    (hK : wpList P ops Q rest (a.put o.dst v) w) :
    wpList P ops Q (o :: rest) a w := by
  refine wpList_plain hg fun K' hK' => ?_
  obtain ⟨v', ps, hrun, hat⟩ := hown.lookup K ht hz (zd := .held z) (zp := []) rfl hkey
  have e : v' = v := by
    unfold RV at hat
    rw [hv] at hat
    simp only [Option.some.injEq, Prod.mk.injEq, DataW.held.injEq] at hat
    exact hat.1
  subst e
  unfold Oper.wp
  simp [execOp, hop, hm, hx, hrun, Result.andThen]
  exact hK' _ _ hK

/-! ### The groups, plainly -/
/-- Does record i go by the name L? -/
def nmB (R : Nat → RC) (L : List UInt8) (i : Nat) : Bool := decide (0 < (R i).pl) && (((R i).ps 0).data.toList == L)
/-- The records among the first k that go by the name L. -/
def idx (R : Nat → RC) (k : Nat) (L : List UInt8) : List Nat := (List.range k).filter (nmB R L)
theorem idx_succ (R : Nat → RC) (k : Nat) (L : List UInt8) : idx R (k + 1) L = idx R k L ++ (if nmB R L k then [k] else []) := by
  unfold idx
  rw [List.range_succ, List.filter_append]
  simp [List.filter_cons]
theorem idx_le (R : Nat → RC) (k : Nat) (L : List UInt8) : (idx R k L).length ≤ k := by
  have := List.length_filter_le (nmB R L) (List.range k)
  simpa [idx] using this
/-- The address of a path without its first element. -/
def tailA (r : RC) : Option Addr := if r.pc = 1 then r.pa else match r.pa with | some a => some ⟨a.block, a.off + 1, none⟩ | none => none
/-- A record's cells, the path's first element dropped. -/
def cells3 (r : RC) : List Value := [.string r.ad, .slice (tailA r) (r.pl - 1) (r.pc - 1), .int .u32 r.wt]
def rowOf (R : Nat → RC) (l : List Nat) : List Value := l.flatMap (fun i => cells3 (R i))
theorem rowOf_snoc (R : Nat → RC) (l : List Nat) (k : Nat) : rowOf R (l ++ [k]) = rowOf R l ++ cells3 (R k) := by simp [rowOf]
/-- How many names there are among the first k records. -/
def cnt (R : Nat → RC) : Nat → Nat
  | 0 => 0
  | k + 1 => if 0 < (R k).pl ∧ idx R k ((R k).ps 0).data.toList = [] then cnt R k + 1 else cnt R k

theorem nmB_name {R : Nat → RC} {k : Nat} (h : 0 < (R k).pl) (L : List UInt8) : nmB R L k = decide (((R k).ps 0).data.toList = L) := by
  unfold nmB
  rw [Bool.eq_iff_iff]
  simp [h]

/-! ### The map in memory -/
structure MInv (w : World) (M : Nat) (R : Nat → RC) (k : Nat) (D : DataW Value) : Prop where
  own : w.ownsMap Trym.prog 9 RV M k D
  grp : ∀ L, ∃ V, D.atKey (.string L) (.held nilS) = .held V ∧ w.ownsRow (M + 1) 30 3 V (idx R k L).length (rowOf R (idx R k L))
  has : ∀ L, Maps.has D (.string L) = decide (idx R k L ≠ [])
  ne : ∀ L L' V V' g, L ≠ L' → D.atKey (.string L) (.held nilS) = .held V → D.atKey (.string L') (.held nilS) = .held V' → V.ownBlock = some g → V'.ownBlock = some g → False
  size : Maps.size D = cnt R k

theorem ownsRow_block {w : World} {base : Nat} {e : TypeId} {size n g : Nat} {v : Value} {xs : List Value} (h : w.ownsRow base e size v n xs) (hg : v.ownBlock = some g) : base ≤ g ∧ g < w.heap.size := by
  rcases h.2 with ⟨h', _⟩ | ⟨g', cap', cur, h', hb, hgg, _⟩
  · subst h'; simp [Value.ownBlock] at hg
  · subst h'
    simp only [Value.ownBlock, Option.some.injEq] at hg
    subst hg
    exact ⟨hb, (Array.getElem?_eq_some_iff.1 hgg).1⟩

theorem minv_start (w : World) (R : Nat → RC) : MInv (w.alloc (.map #[] 0)) w.heap.size R 0 (.map []) := by
  refine ⟨World.ownsMap_made _ _ _ _, fun L => ⟨nilS, rfl, ?_⟩, fun L => rfl, ?_, rfl⟩
  · exact World.ownsRow_nil _ _ _ _
  · intro L L' V V' g _ h _ hg _
    have : V = nilS := by
      have h' : (DataW.held nilS : DataW Value) = .held V := h
      simpa using h'.symm
    subst this
    simp [nilS, Value.ownBlock] at hg

theorem minv_skip {w : World} {M : Nat} {R : Nat → RC} {k : Nat} {D : DataW Value} (h : MInv w M R k D) (h0 : (R k).pl = 0) (o : Obj) : MInv (w.alloc o) M R (k + 1) D := by
  have e : ∀ L, idx R (k + 1) L = idx R k L := by
    intro L
    rw [idx_succ]
    have : nmB R L k = false := by simp [nmB, h0]
    rw [this]
    simp
  refine ⟨(h.own.alloc o).mono (by omega), fun L => ?_, fun L => by rw [e]; exact h.has L, h.ne, ?_⟩
  · obtain ⟨V, h1, h2⟩ := h.grp L
    rw [e]
    exact ⟨V, h1, h2.alloc o⟩
  · rw [h.size]
    show _ = cnt R (k + 1)
    unfold cnt
    rw [if_neg (by omega)]
    cases k <;> rfl

theorem minv_put {wr w1 w2 : World} {M : Nat} {R : Nat → RC} {k : Nat} {D : DataW Value} (h : MInv wr M R k D) (X Y : Obj) {V0 V1 : Value} (hp : 0 < (R k).pl)
    (hV0 : D.atKey (.string ((R k).ps 0).data.toList) (.held nilS) = .held V0)
    (hown1 : w1.ownsRow (M + 1) 30 3 V1 ((idx R k ((R k).ps 0).data.toList).length + 1) (rowOf R (idx R k ((R k).ps 0).data.toList) ++ cells3 (R k)))
    (hgr1 : ((wr.alloc X).alloc Y).grownBy w1 V0.ownBlock) (hloc : V1.ownBlock = V0.ownBlock ∨ V1.ownBlock = some ((wr.alloc X).alloc Y).heap.size)
    (hown2 : w2.ownsMap Trym.prog 9 RV M (k + 1) (D.put (.string ((R k).ps 0).data.toList) (.held V1))) (hgr2 : w1.grownBy w2 (some M)) :
    MInv w2 M R (k + 1) (D.put (.string ((R k).ps 0).data.toList) (.held V1)) := by
  have hnm := nmB_name hp
  generalize hL0 : ((R k).ps 0).data.toList = L0 at *
  have e0 : idx R (k + 1) L0 = idx R k L0 ++ [k] := by rw [idx_succ, hnm L0]; simp
  have e1 : ∀ L, L ≠ L0 → idx R (k + 1) L = idx R k L := by
    intro L hL
    rw [idx_succ, hnm L, decide_eq_false (fun e => hL e.symm)]
    simp
  have hmap : IsMap D := h.own.isMap
  have hkey : WideAt.IsKeyLit (.string L0) := by trivial
  have hne : ∀ L, L ≠ L0 → (Lit.string L) ≠ (Lit.string L0) := by
    intro L hL e
    exact hL (by simpa using e)
  have hszW : ((wr.alloc X).alloc Y).heap.size = wr.heap.size + 2 := by simp
  refine ⟨hown2, fun L => ?_, fun L => ?_, ?_, ?_⟩
  · by_cases hL : L = L0
    · subst hL
      refine ⟨V1, atKey_put_same hmap hkey _ _, ?_⟩
      rw [e0, rowOf_snoc, List.length_append]
      refine hown1.kept hgr2 (.inr ?_)
      intro e
      have := ownsRow_block hown1 e
      omega
    · obtain ⟨V, h1, h2⟩ := h.grp L
      refine ⟨V, by rw [atKey_put_other (hne L hL)]; exact h1, ?_⟩
      rw [e1 L hL]
      have h3 := (h2.alloc X).alloc Y
      have h4 := h3.kept hgr1 (by
        cases hb : V.ownBlock with
        | none => exact .inl rfl
        | some g => exact .inr (fun e => h.ne L L0 V V0 g hL h1 hV0 hb (by rw [← e])))
      refine h4.kept hgr2 ?_
      cases hb : V.ownBlock with
      | none => exact .inl rfl
      | some g =>
        right
        intro e
        have := ownsRow_block h4 hb
        simp at e
        omega
  · by_cases hL : L = L0
    · subst hL
      rw [has_put_same hmap hkey, e0]
      simp
    · rw [has_put_other (hne L hL), h.has, e1 L hL]
  · have key : ∀ L V g, L ≠ L0 → D.atKey (.string L) (.held nilS) = .held V → V.ownBlock = some g → V1.ownBlock = some g → False := by
      intro L V g hL h1 hg hg1
      rcases hloc with e | e
      · exact h.ne L L0 V V0 g hL h1 hV0 hg (by rw [← e]; exact hg1)
      · obtain ⟨V', h1', h2'⟩ := h.grp L
        rw [h1] at h1'
        have eV : V' = V := by simpa using h1'.symm
        subst eV
        have := ownsRow_block h2' hg
        rw [hg1, hszW] at e
        simp at e
        omega
    intro L L' V V' g hLL h1 h2 hg hg'
    by_cases hL : L = L0
    · subst hL
      rw [atKey_put_same hmap hkey] at h1
      have eV : V1 = V := by simpa using h1
      subst eV
      rw [atKey_put_other (hne L' (fun e => hLL e.symm))] at h2
      exact key L' V' g (fun e => hLL e.symm) h2 hg' hg
    · rw [atKey_put_other (hne L hL)] at h1
      by_cases hL' : L' = L0
      · subst hL'
        rw [atKey_put_same hmap hkey] at h2
        have eV : V1 = V' := by simpa using h2
        subst eV
        exact key L V g hL h1 hg hg'
      · rw [atKey_put_other (hne L' hL')] at h2
        exact h.ne L L' V V' g hLL h1 h2 hg hg'
  · rw [size_put (h.own.tidy keyLaw), h.has, h.size]
    show _ = cnt R (k + 1)
    simp only [cnt]
    rw [hL0]
    by_cases e : idx R k L0 = []
    · simp [e, hp]
    · simp [e]

theorem cells3_new2 (w : World) (X : Obj) (c0 c1 c2 : Value) (t : TypeId) : ∀ j u, [c0, c1, c2][j]? = some u → ((w.alloc X).alloc (.cells #[c0, c1, c2] t)).cell? ((⟨w.heap.size + 1, 0, none⟩ : Addr).add j) = some u := by
  intro j u h
  have hj : j < 3 := by
    have := (List.getElem?_eq_some_iff.1 h).1
    simpa using this
  rw [WideShapes.add_plain, Nat.zero_add, World.cell?_alloc_at _ _ _ _ (by simp)]
  rw [← h]
  simp
theorem ones3 (s : ByteArray) (a : Option Addr) (l c : Nat) (z : Int) : ∀ u ∈ [Value.string s, .slice a l c, .int .u32 z], u.oneCell' = true := by
  intro u hu
  simp at hu
  rcases hu with rfl | rfl | rfl <;> rfl
theorem cells3_new (w : World) (c0 c1 c2 : Value) (t : TypeId) : ∀ j u, [c0, c1, c2][j]? = some u → (w.alloc (.cells #[c0, c1, c2] t)).cell? ((⟨w.heap.size, 0, none⟩ : Addr).add j) = some u := by
  intro j u h
  have hj : j < 3 := by
    have := (List.getElem?_eq_some_iff.1 h).1
    simpa using this
  rw [WideShapes.add_plain, Nat.zero_add, World.cell?_alloc_at _ _ _ _ rfl]
  rw [← h]
  simp

set_option maxRecDepth 100000 in
set_option maxHeartbeats 1000000 in
theorem split_any (b n : Nat) (R : Nat → RC) (w : World) (hm : n ≤ 4096) (hpl : ∀ i, i < n → (R i).pl ≤ 1048576) (hR : SRow w b 0 n R) :
    Calls Trym.prog 14 #[.slice (some ⟨b, 0, none⟩) n n] w fun e w' => e = .returned (.map (some w.heap.size)) ∧ (∃ D, MInv w' w.heap.size R n D) ∧ Below w.heap.size w w' := by
  obtain ⟨i0, hi, hz0, hz1, hz2⟩ := info_parts Trym.info30
  have hmm := @run_makeMap Trym.prog
  go_enter Trym.func14, Trym.ntmps14
  go_wp2
  clear hmm
  go_loopw [5, 6, 10] (fun _ _ i wr => ∃ (k : Nat) (D : DataW Value), k ≤ n ∧ i = .int .i64 k ∧ MInv wr w.heap.size R k D ∧ Below w.heap.size w wr) (fun _ _ i _ => n - (intOf i).toNat)
  case atStart => exact ⟨0, _, Nat.zero_le _, rfl, minv_start _ _, (Below.refl _ _).alloc (Nat.le_refl _) _⟩
  case round =>
    obtain ⟨k, D, hk, rfl, hI, hb⟩ := hrel
    by_cases hlt : k < n
    · have hRr := hR.keep hb
      have hc0 := hRr.c0 k hlt
      have hc1 := hRr.c1 k hlt
      have hc2 := hRr.c2 k hlt
      have hP := hRr.path k hlt
      have hple := hpl k hlt
      simp only [Nat.zero_add] at hc0 hc1 hc2
      clear hRr
      have hMs : w.heap.size + 1 ≤ wr.heap.size := hI.own.lt
      by_cases hp0 : (R k).pl = 0
      · have hS := fun o => minv_skip hI hp0 o
        generalize R k = r at *
        have hq : ((r.pl : Int) == 0) = true := by simp; omega
        clear hI hp0
        go_wp2
        go_roundw
        case rel => exact ⟨k + 1, D, by omega, by go_num, hS _, hb.alloc hb.size _⟩
        case measure => simp [intOf]; omega
      · obtain ⟨V0, hV0, hO0⟩ := hI.grp ((R k).ps 0).data.toList
        have HPut := hide (fun (w1 w2 : World) (X Y : Obj) (V1 : Value) => minv_put (w1 := w1) (w2 := w2) (V1 := V1) hI X Y (by omega) hV0)
        have hxl := idx_le R k ((R k).ps 0).data.toList
        have hown := hI.own
        have HMB : Hid (some w.heap.size ≠ V0.ownBlock) := hide (fun e => by have := ownsRow_block hO0 e.symm; omega)
        generalize hrx : rowOf R (idx R k ((R k).ps 0).data.toList) = xs at *
        generalize (idx R k ((R k).ps 0).data.toList).length = ln at *
        generalize R k = r at *
        have hq : ((r.pl : Int) == 0) = false := by simp; omega
        obtain ⟨pb, po, hpa, hpb, hpc⟩ := hP.pos (by omega)
        rw [hpa] at hc1
        have hcs := hpc 0 (by omega)
        rw [Nat.add_zero] at hcs
        have hpi : (0 : Int) < (r.pl : Int) := by omega
        have hkey := WideMaps.keyOf_string_mk (P := Trym.prog) Trym.underlying9 (hP.size 0 (by omega))
        have hle := hP.le
        have HL1 : Hid (ln + 1 ≤ maxLen) := hide (by unfold maxLen; omega)
        have HL2 : Hid ((ln + 1) * 48 ≤ 140737488355328) := hide (by omega)
        have HL3 : Hid (∀ X Y : Obj, w.heap.size + 1 ≤ ((wr.alloc X).alloc Y).heap.size) := hide (fun X Y => by simp; omega)
        have HBL : Hid (∀ (X Y : Obj) (w1 w2 : World), ((wr.alloc X).alloc Y).grownBy w1 V0.ownBlock → w1.grownBy w2 (some w.heap.size) → Below w.heap.size w w2) := hide (fun X Y w1 w2 g1 g2 => by
          have b1 := ((hb.alloc hb.size X).alloc (by simp; omega) Y).grown g1 (by simp; omega) (fun j hj => by have := ownsRow_block hO0 hj; omega)
          exact b1.grown g2 (Nat.le_trans (Nat.le_of_lt (Nat.lt_of_lt_of_le (Nat.lt_succ_self _) (HL3.out X Y))) g1.size) (fun j hj => by cases hj; exact Nat.le_refl _))
        have HL4 : Hid (k < maxLen) := hide (by unfold maxLen; omega)
        clear hI hpc hrx hP
        by_cases hpc1 : r.pc = 1
        · have hC : cells3 r = [.string r.ad, .slice (some ⟨pb, po, none⟩) (r.pl - 1) 0, .int .u32 r.wt] := by simp [cells3, tailA, hpc1, hpa]
          rw [hC] at HPut
          clear hC hpa
          go_wp2_with (first | (at_lookup; refine wpList_lookup_held _ rfl (.tmp 28) (.tmp 29) 31 rfl 9 29 keyLaw Trym.underlying31 nilS (zero29 _) w.heap.size k D rfl (hown.alloc _) _ _ rfl hkey V0 hV0 ?_) | (at_builtin; refine wpList_append_own_at _ rfl (.tmp 30) (.tmp 32) 29 rfl (w.heap.size + 1) 30 i0 _ 3 48 Trym.underlying29 hi hz0 hz1 hz2 rfl (by decide) V0 ln xs rfl ((hO0.alloc _).alloc _) ⟨wr.heap.size + 1, 0, none⟩ 1 1 [.string r.ad, .slice (some ⟨pb, po, none⟩) (r.pl - 1) 0, .int .u32 r.wt] rfl rfl (cells3_new2 _ _ _ _ _ _) (ones3 _ _ _ _ _) HL1.out HL2.out (HL3.out _ _) ?_; intro V1 w1 hown1 hgr1 hnil1 hloc1; have hown1m := ((hown.alloc _).alloc _).kept hgr1 HMB.out) | (at_mapUpdate; refine wpList_mapUpdate_own _ rfl (.tmp 26) (.tmp 27) (.tmp 33) 31 rfl 9 29 keyLaw Trym.underlying31 RV w.heap.size k D rfl (hown1m) HL4.out _ V1 _ rfl rfl hkey (.held V1) [] rfl ?_; intro w2 hown2 hgr2))
          go_roundw
          case rel => exact ⟨k + 1, _, by omega, by go_num, HPut.out w1 w2 _ _ V1 hown1 hgr1 hloc1 hown2 hgr2, HBL.out _ _ w1 w2 hgr1 hgr2⟩
          case measure => simp [intOf]; omega
        · have hC : cells3 r = [.string r.ad, .slice (some ⟨pb, po + 1, none⟩) (r.pl - 1) (r.pc - 1), .int .u32 r.wt] := by simp [cells3, tailA, hpc1, hpa]
          rw [hC] at HPut
          clear hC hpa
          go_wp2_with (first | (at_lookup; refine wpList_lookup_held _ rfl (.tmp 28) (.tmp 29) 31 rfl 9 29 keyLaw Trym.underlying31 nilS (zero29 _) w.heap.size k D rfl (hown.alloc _) _ _ rfl hkey V0 hV0 ?_) | (at_builtin; refine wpList_append_own_at _ rfl (.tmp 30) (.tmp 32) 29 rfl (w.heap.size + 1) 30 i0 _ 3 48 Trym.underlying29 hi hz0 hz1 hz2 rfl (by decide) V0 ln xs rfl ((hO0.alloc _).alloc _) ⟨wr.heap.size + 1, 0, none⟩ 1 1 [.string r.ad, .slice (some ⟨pb, po + 1, none⟩) (r.pl - 1) (r.pc - 1), .int .u32 r.wt] rfl rfl (cells3_new2 _ _ _ _ _ _) (ones3 _ _ _ _ _) HL1.out HL2.out (HL3.out _ _) ?_; intro V1 w1 hown1 hgr1 hnil1 hloc1; have hown1m := ((hown.alloc _).alloc _).kept hgr1 HMB.out) | (at_mapUpdate; refine wpList_mapUpdate_own _ rfl (.tmp 26) (.tmp 27) (.tmp 33) 31 rfl 9 29 keyLaw Trym.underlying31 RV w.heap.size k D rfl (hown1m) HL4.out _ V1 _ rfl rfl hkey (.held V1) [] rfl ?_; intro w2 hown2 hgr2))
          go_roundw
          case rel => exact ⟨k + 1, _, by omega, by go_num, HPut.out w1 w2 _ _ V1 hown1 hgr1 hloc1 hown2 hgr2, HBL.out _ _ w1 w2 hgr1 hgr2⟩
          case measure => simp [intOf]; omega
    · obtain rfl : n = k := by omega
      go_wp2
      go_ret
      exact ⟨rfl, ⟨D, hI⟩, hb⟩

theorem zzSplit_any (b n : Nat) (R : Nat → RC) (w : World) (hm : n ≤ 4096) (hpl : ∀ i, i < n → (R i).pl ≤ 1048576) (hR : SRow w b 0 n R) :
    Calls Trym.prog 8 #[.slice (some ⟨b, 0, none⟩) n n] w fun e w' => e = .returned (.map (some w.heap.size)) ∧ (∃ D, MInv w' w.heap.size R n D) ∧ Below w.heap.size w w' := by
  have H := split_any b n R w hm hpl hR
  go_enter Trym.func8, Trym.ntmps8
  go_wp2_with (go_at_call 14; refine H.mono ?_; rintro e w' ⟨rfl, hD, hB⟩)
  go_ret
  exact ⟨rfl, hD, hB⟩

end Go.Proofs.Qxb6605173aMods
