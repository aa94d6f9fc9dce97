/-
  THE WALK of cloneAddrsB1 (7).
-/
import Derived.Test.Qxb6605173aModsRec
namespace Go.Proofs.Qxb6605173aMods
open Go.RowKit
set_option linter.unusedVariables false
set_option linter.unusedSimpArgs false

theorem Trym.info27 : (Trym.prog.info? 27).map (fun i => (i.zero, i.size, i.bytes)) = some (some (.agg #[.string ⟨#[]⟩, .slice none 0 0, .int .u32 0]), 3, 48) := by kernel_rfl
theorem Trym.info30 : (Trym.prog.info? 30).map (fun i => (i.zero, i.size, i.bytes)) = some (some (.agg #[.string ⟨#[]⟩, .slice none 0 0, .int .u32 0]), 3, 48) := by kernel_rfl
theorem Trym.info9 : (Trym.prog.info? 9).map (fun i => (i.zero, i.size, i.bytes)) = some (some (.string ⟨#[]⟩), 1, 16) := by kernel_rfl

/-- The same record, the path's place aside. -/
structure SameR (r r' : RC) : Prop where
  ad : r'.ad = r.ad
  wt : r'.wt = r.wt
  pl : r'.pl = r.pl
  ps : ∀ j, j < r.pl → r'.ps j = r.ps j

/-- What 'make' leaves of a row of three cells an element. -/
theorem tab_of_made3 {w : World} {base e n g : Nat} {xs : List Value} (h : w.ownsRow base e 3 (.slice (some ⟨g, 0, none⟩) n n) n xs) : ∃ F, TabV w g e (n * 3) F := by
  rcases h.2 with ⟨h', _⟩ | ⟨g', cap', cur, h', _, hg, _, _, hs, htake⟩
  · simp at h'
  · simp only [Value.slice.injEq, Option.some.injEq, Addr.mk.injEq, and_true, true_and] at h'
    obtain ⟨rfl, rfl⟩ := h'
    refine ⟨fun x => cur.getD x undef, ?_⟩
    unfold TabV
    rw [hg]
    congr 2
    apply Array.ext'
    apply List.ext_getElem?
    intro j
    by_cases hj : j < n * 3
    · have hj' : j < cur.size := by omega
      simp [hj, hj']
    · rw [List.getElem?_eq_none (by simp; omega), List.getElem?_eq_none (by simp; omega)]

/-- The records of the first k rows of a table. -/
structure Rows3 (w : World) (B : Nat) (F : Nat → Value) (R R' : Nat → RC) (k : Nat) : Prop where
  f0 : ∀ i, i < k → F (i * 3) = .string (R' i).ad
  f1 : ∀ i, i < k → F (i * 3 + 1) = .slice (R' i).pa (R' i).pl (R' i).pc
  f2 : ∀ i, i < k → F (i * 3 + 2) = .int .u32 (R' i).wt
  path : ∀ i, i < k → PathAt w (R' i)
  ne : ∀ i, i < k → ∀ a, (R' i).pa = some a → a.block ≠ B
  same : ∀ i, i < k → SameR (R i) (R' i)

theorem PathAt.set {w : World} {r : RC} (h : PathAt w r) {B x : Nat} (hne : ∀ a, r.pa = some a → a.block ≠ B) (v : Value) : PathAt (w.setCell ⟨B, x, none⟩ v) r :=
  ⟨h.le, h.cap, h.nil, fun h0 => by
    obtain ⟨pb, po, h1, h2, h3⟩ := h.pos h0
    have hpb : pb ≠ B := hne _ h1
    refine ⟨pb, po, h1, by simpa using h2, fun j hj => ?_⟩
    rw [← h3 j hj]
    exact World.cell?_of_block (w := w) (a := ⟨pb, po + j, none⟩) (heap_setCell_other w ⟨B, x, none⟩ pb v hpb), h.size⟩
theorem PathAt.drew {w : World} {r : RC} (h : PathAt w r) : PathAt w.drew r := ⟨h.le, h.cap, h.nil, h.pos, h.size⟩
theorem Rows3.keep {w w' : World} {B : Nat} {F : Nat → Value} {R R' : Nat → RC} {k : Nat} (h : Rows3 w B F R R' k) (hb : Below w.heap.size w w') : Rows3 w' B F R R' k :=
  ⟨h.f0, h.f1, h.f2, fun i hi => (h.path i hi).keep hb, h.ne, h.same⟩

/-- The world behind one round's store. -/
def put3 (w : World) (B k : Nat) (r : RC) : World :=
  (((w.setCell ⟨B, k * 3, none⟩ (.string r.ad)).setCell ⟨B, k * 3 + 1, none⟩ (.slice r.pa r.pl r.pc)).setCell ⟨B, k * 3 + 2, none⟩ (.int .u32 r.wt)).drew

theorem row_step {w wr : World} {B n k : Nat} {t : TypeId} {F : Nat → Value} {R R' : Nat → RC} (ht : TabV wr B t (n * 3) F) (hrow : Rows3 wr B F R R' k) (hb : Below B w wr) (r : RC) (hP : PathAt wr r)
    (hne : ∀ a, r.pa = some a → a.block ≠ B) (hs : SameR (R k) r) :
    ∃ F2 R2, TabV (put3 wr B k r) B t (n * 3) F2 ∧ Rows3 (put3 wr B k r) B F2 R R2 (k + 1) ∧ Below B w (put3 wr B k r) := by
  refine ⟨upd (upd (upd F (k * 3) (.string r.ad)) (k * 3 + 1) (.slice r.pa r.pl r.pc)) (k * 3 + 2) (.int .u32 r.wt), upd R' k r, ((ht.set _ _).set _ _).set _ _, ⟨?_, ?_, ?_, ?_, ?_, ?_⟩, (((hb.setCell (Nat.le_refl _) _).setCell (Nat.le_refl _) _).setCell (Nat.le_refl _) _).drew⟩
  · intro i hi
    by_cases e : i = k
    · subst e
      simp [upd]
    · have := hrow.f0 i (by omega)
      simp only [upd]
      rw [if_neg (by omega), if_neg (by omega), if_neg (by omega), if_neg e]
      exact this
  · intro i hi
    by_cases e : i = k
    · subst e
      simp [upd]
    · have := hrow.f1 i (by omega)
      simp only [upd]
      rw [if_neg (by omega), if_neg (by omega), if_neg (by omega), if_neg e]
      exact this
  · intro i hi
    by_cases e : i = k
    · subst e
      simp [upd]
    · have := hrow.f2 i (by omega)
      simp only [upd]
      rw [if_neg (by omega), if_neg (by omega), if_neg (by omega), if_neg e]
      exact this
  · intro i hi
    by_cases e : i = k
    · subst e
      have e2 : upd R' i r i = r := by simp [upd]
      rw [e2]
      exact (((hP.set hne _).set hne _).set hne _).drew
    · have e2 : upd R' k r i = R' i := by simp [upd, e]
      rw [e2]
      have h1 := hrow.path i (by omega)
      have h2 := hrow.ne i (by omega)
      exact (((h1.set h2 _).set h2 _).set h2 _).drew
  · intro i hi
    by_cases e : i = k
    · subst e
      have e2 : upd R' i r i = r := by simp [upd]
      rw [e2]
      exact hne
    · have e2 : upd R' k r i = R' i := by simp [upd, e]
      rw [e2]
      exact hrow.ne i (by omega)
  · intro i hi
    by_cases e : i = k
    · subst e
      have e2 : upd R' i r i = r := by simp [upd]
      rw [e2]
      exact hs
    · have e2 : upd R' k r i = R' i := by simp [upd, e]
      rw [e2]
      exact hrow.same i (by omega)

theorem srow_of {wr : World} {B n : Nat} {t : TypeId} {F : Nat → Value} {R R' : Nat → RC} (ht : TabV wr B t (n * 3) F) (hrow : Rows3 wr B F R R' n) : SRow wr B 0 n R' :=
  ⟨ht.lt, fun i hi => by rw [Nat.zero_add, ht.cell (by omega), hrow.f0 i hi], fun i hi => by rw [Nat.zero_add, ht.cell (by omega), hrow.f1 i hi], fun i hi => by rw [Nat.zero_add, ht.cell (by omega), hrow.f2 i hi], hrow.path⟩

/-- A path copied into a new block. -/
theorem path_copied {w wr w3 : World} {G pl : Nat} {ps : Nat → ByteArray} {ad : ByteArray} {wt : Int} (hpl : pl ≤ 1048576) (hsz : ∀ j, j < pl → (ps j).size ≤ maxLen)
    (hc : w3.heap[G]? = some (.cells (splice ((List.range pl).map (fun _ => Value.string ⟨#[]⟩)) 0 ((List.range pl).map (fun j => Value.string (ps j)))).toArray 9 (0, 0))) : PathAt w3 ⟨ad, some ⟨G, 0, none⟩, pl, pl, ps, wt⟩ := by
  have hT : TabV w3 G 9 pl (fun j => .string (ps j)) := by
    unfold TabV
    rw [hc]
    congr 2
    congr 1
    unfold splice
    rw [List.take_zero, List.nil_append, List.drop_eq_nil_of_le (by simp), List.append_nil]
  exact ⟨Nat.le_refl _, (by show pl ≤ maxLen; unfold maxLen; omega), (by intro h; cases h), fun _ => ⟨G, 0, rfl, hT.lt, fun j hj => by rw [Nat.zero_add]; exact hT.cell hj⟩, hsz⟩

theorem path_src {w1 w2 : World} {r : RC} {G : Nat} {x : Addr} (hx : r.pa = some x) (hP : PathAt w1 r) (hb : Below w1.heap.size w1 w2) :
    0 < ((List.range r.pl).map (fun j => Value.string (r.ps j))).length → (some (⟨G, 0, none⟩ : Addr)) = some ⟨G, 0, none⟩ ∧ ∃ ad : Addr, (some x) = some ad ∧ ∀ j v, ((List.range r.pl).map (fun j => Value.string (r.ps j)))[j]? = some v → w2.cell? (ad.add j) = some v := by
  intro h0
  have h0' : 0 < r.pl := by simpa using h0
  obtain ⟨pb, po, h1, h2, h3⟩ := hP.pos h0'
  rw [hx] at h1
  obtain rfl := Option.some.inj h1
  refine ⟨rfl, _, rfl, ?_⟩
  intro j v hv
  have hj : j < r.pl := by
    have := (List.getElem?_eq_some_iff.1 hv).1
    simpa using this
  rw [WideShapes.add_plain, hb.cell h2, h3 j hj]
  simpa [hj] using hv

set_option maxRecDepth 100000 in
set_option maxHeartbeats 1000000 in
theorem clone_pos (b off n cap : Nat) (R : Nat → RC) (w : World) (hn : n ≤ cap) (hm : n ≤ 4096) (hpl : ∀ i, i < n → (R i).pl ≤ 1048576) (hR : SRow w b off n R) :
    Calls Trym.prog 7 #[.slice (some ⟨b, off, none⟩) n cap] w fun e w' => e = .returned (.slice (some ⟨w.heap.size, 0, none⟩) n n) ∧ (∃ R', SRow w' w.heap.size 0 n R' ∧ ∀ i, i < n → SameR (R i) (R' i)) ∧ Below w.heap.size w w' := by
  obtain ⟨i0, hi, hz0, hz1, hz2⟩ := info_parts Trym.info27
  obtain ⟨j0, hj, hy0, hy1, hy2⟩ := info_parts Trym.info9
  have HB1 : Hid (i0.bytes * n ≤ 281474976710656) := hide (by rw [hz2]; omega)
  have HM1 : Hid (n ≤ maxLen) := hide (by unfold maxLen; omega)
  have HSZ : Hid ((Trym.prog.info? 9).map (·.size) = some 1) := hide (by kernel_rfl)
  have hnil := fun (w : World) (a : Option Addr) (l c : Nat) => Lib.run_eql_slice_nil (P := Trym.prog) w 22 27 a l c 0 0 Trym.underlying22
  go_enter Trym.func7, Trym.ntmps7
  go_wp2_with (refine wpList_make_full _ rfl (.tmp 9) (.tmp 9) 22 rfl w.heap.size 27 i0 _ 3 Trym.underlying22 hi hz0 hz1 .i64 .i64 _ _ n rfl rfl rfl rfl HB1.out HM1.out (Nat.le_refl _) ?_)
  intro w1 hown hgr
  have hb1 : Below w.heap.size w w1 := (Below.refl _ _).grown hgr (Nat.le_refl _) (by intro k h; cases h)
  obtain ⟨F1, ht1⟩ := tab_of_made3 hown
  clear hown hgr hnil
  go_wp2
  go_loopw [4, 5] (fun i _ wr => ∃ (k : Nat) (F : Nat → Value) (R' : Nat → RC), k ≤ n ∧ i = .int .i64 k ∧ TabV wr w.heap.size 27 (n * 3) F ∧ Rows3 wr w.heap.size F R R' k ∧ Below w.heap.size w wr) (fun i _ _ => n - (intOf i).toNat)
  case atStart => exact ⟨0, F1, R, Nat.zero_le _, rfl, ht1, ⟨fun i h => absurd h (by omega), fun i h => absurd h (by omega), fun i h => absurd h (by omega), fun i h => absurd h (by omega), fun i h => absurd h (by omega), fun i h => absurd h (by omega)⟩, hb1⟩
  case round =>
    clear ht1 hb1
    obtain ⟨k, F, R', hk, rfl, ht, hrow, hb⟩ := hrel
    by_cases hlt : k < n
    · have hRr := hR.keep hb
      have hc0 := hRr.c0 k hlt
      have hc1 := hRr.c1 k hlt
      have hc2 := hRr.c2 k hlt
      have hP := hRr.path k hlt
      have hple := hpl k hlt
      have hcF0 := ht.cell (i := k * 3) (by omega)
      have hcF1 := ht.cell (i := k * 3 + 1) (by omega)
      have hcF2 := ht.cell (i := k * 3 + 2) (by omega)
      have hfr0 := ht.froz (k * 3)
      have hfr1 := ht.froz (k * 3 + 1)
      have hfr2 := ht.froz (k * 3 + 2)
      clear hRr
      generalize F (k * 3) = v0 at *
      generalize F (k * 3 + 1) = v1 at *
      generalize F (k * 3 + 2) = v2 at *
      obtain ⟨r, hr⟩ : ∃ r, r = R k := ⟨_, rfl⟩
      rw [← hr] at hc0 hc1 hc2 hP hple
      have HRk : Hid (R k = r) := hr.symm
      clear hr
      obtain ⟨ad, pa, pl, pc, ps, wt⟩ := r
      dsimp only at hc0 hc1 hc2 hple
      have hnil := fun (w : World) (a : Option Addr) (l c : Nat) => run_neq_slice_nil_any (P := Trym.prog) w 24 9 a l c 0 0 Trym.underlying24
      have hsR : SameR (R k) ⟨ad, pa, pl, pc, ps, wt⟩ := by rw [HRk.out]; exact ⟨rfl, rfl, rfl, fun _ _ => rfl⟩
      cases pa with
      | none =>
        obtain ⟨rfl, rfl⟩ := hP.nil rfl
        have hS := row_step ht hrow hb ⟨ad, none, 0, 0, ps, wt⟩ hP (by intro a h; cases h) hsR
        clear ht hrow hP hsR
        go_wp2
        go_region
        go_wp2
        go_roundw
        case rel =>
          obtain ⟨F2, R2, g1, g2, g3⟩ := hS
          exact ⟨k + 1, F2, R2, by omega, by go_num, g1, g2, g3⟩
        case measure => simp [intOf]; omega
      | some x =>
        have HB2 : Hid (j0.bytes * pl ≤ 281474976710656) := hide (by rw [hy2]; omega)
        have HM2 : Hid (pl ≤ maxLen) := hide (by unfold maxLen; omega)
        have hltB := ht.lt
        go_wp2_with (refine wpList_make_full _ rfl (.tmp 28) (.tmp 28) 24 rfl wr.heap.size 9 j0 (.string ⟨#[]⟩) 1 Trym.underlying24 hj hy0 hy1 .i64 .i64 _ _ pl rfl rfl rfl rfl HB2.out HM2.out (Nat.le_refl _) ?_)
        intro w2 hown2 hgr2
        have hb2 : Below wr.heap.size wr w2 := (Below.refl _ _).grown hgr2 (Nat.le_refl _) (by intro k h; cases h)
        have ht2 : TabV w2 wr.heap.size 9 pl (fun _ => .string ⟨#[]⟩) := tab_of_made hown2
        have HX1 := hide (path_src (G := wr.heap.size) rfl hP hb2)
        have HX2 : Hid (((List.range pl).map (fun j => Value.string (ps j))).length = Nat.min pl pl) := hide (by rw [show Nat.min pl pl = pl from Nat.min_self pl]; simp)
        have HX3 : Hid (0 + ((List.range pl).map (fun j => Value.string (ps j))).length ≤ ((List.range pl).map (fun _ => Value.string ⟨#[]⟩)).length) := hide (by simp)
        have HX4 : Hid (∀ v ∈ (List.range pl).map (fun j => Value.string (ps j)), v.oneCell' = true) := hide (by intro v hv; obtain ⟨_, _, rfl⟩ := List.mem_map.1 hv; rfl)
        have HX5 := hide (fun (w3 : World) => path_copied (w := w) (wr := wr) (w3 := w3) (G := wr.heap.size) (ps := ps) (ad := ad) (wt := wt) hple hP.size)
        have hc1b := (hb2.cell (p := ⟨b, off + k * 3 + 1, none⟩) (World.block_lt_of_cell? wr _ hc1)).trans hc1
        clear hown2 hgr2 hP
        dsimp only at HX1
        generalize (List.range pl).map (fun j => Value.string (ps j)) = CS at *
        go_wp2_with (refine wpList_copy_splice rfl (.tmp 30) (.tmp 35) 24 24 rfl 9 Trym.underlying24 HSZ.out _ _ _ _ _ _ rfl rfl wr.heap.size 0 _ 9 ht2 CS HX2.out HX1.out HX3.out HX4.out wr.heap.size wr hb2 (Nat.le_refl _) ?_)
        intro w3 hg3 hb3
        have hP3 := HX5.out w3 hg3.out
        have hS := row_step (ht.keep hb3 hltB) (hrow.keep hb3) (hb.trans (hb3.mono (by omega))) ⟨ad, some ⟨wr.heap.size, 0, none⟩, pl, pl, ps, wt⟩ hP3 (by intro a h; cases h; show wr.heap.size ≠ w.heap.size; omega) ⟨hsR.ad, hsR.wt, hsR.pl, hsR.ps⟩
        have k0 := (hb3.cell (p := ⟨b, off + k * 3, none⟩) (World.block_lt_of_cell? wr _ hc0)).trans hc0
        have k1 := (hb3.cell (p := ⟨b, off + k * 3 + 1, none⟩) (World.block_lt_of_cell? wr _ hc1)).trans hc1
        have k2 := (hb3.cell (p := ⟨b, off + k * 3 + 2, none⟩) (World.block_lt_of_cell? wr _ hc2)).trans hc2
        have k3 := (hb3.cell (p := ⟨w.heap.size, k * 3, none⟩) hltB).trans hcF0
        have k4 := (hb3.cell (p := ⟨w.heap.size, k * 3 + 1, none⟩) hltB).trans hcF1
        have k5 := (hb3.cell (p := ⟨w.heap.size, k * 3 + 2, none⟩) hltB).trans hcF2
        have k6 := (hb3.frozen (p := ⟨w.heap.size, k * 3, none⟩) hltB).trans hfr0
        have k7 := (hb3.frozen (p := ⟨w.heap.size, k * 3 + 1, none⟩) hltB).trans hfr1
        have k8 := (hb3.frozen (p := ⟨w.heap.size, k * 3 + 2, none⟩) hltB).trans hfr2
        clear ht hrow hsR HX1 HX2 HX3 HX4 HX5 hg3 hP3 ht2 hb2 hc0 hc1 hc2 hcF0 hcF1 hcF2 hfr0 hfr1 hfr2 hc1b
        go_wp2
        go_region
        go_wp2
        go_roundw
        case rel =>
          obtain ⟨F2, R2, g1, g2, g3⟩ := hS
          exact ⟨k + 1, F2, R2, by omega, by go_num, g1, g2, g3⟩
        case measure => simp [intOf]; omega
    · obtain rfl : n = k := by omega
      have hS := srow_of ht hrow
      have hsm := hrow.same
      clear ht hrow
      go_wp2
      go_ret
      exact ⟨rfl, ⟨R', hS, hsm⟩, hb⟩

end Go.Proofs.Qxb6605173aMods
