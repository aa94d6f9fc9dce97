/-
  THE WALK of FnRingOrderNextByFirstAppearance (4).
-/
import Derived.Test.Qxb6605173aModsRingA
namespace Go.Proofs.Qxb6605173aMods
open Go.RowKit
set_option linter.unusedVariables false
set_option linter.unusedSimpArgs false

/-- The first places among the first k owners. -/
def fp (os : List Nat) (k x : Nat) : Int := if x ∈ os.take k then ((os.idxOf x : Nat) : Int) else -1

theorem mem_take_snoc {os : List Nat} {k : Nat} (h : k < os.length) (x : Nat) : x ∈ os.take (k + 1) ↔ x ∈ os.take k ∨ x = os.getD k 0 := by
  rw [take_snoc os k h]
  simp
theorem idx_new {os : List Nat} {k : Nat} (h : k < os.length) (hn : os.getD k 0 ∉ os.take k) : os.idxOf (os.getD k 0) = k := by
  have e : os = os.take k ++ (os.getD k 0 :: os.drop (k + 1)) := by
    have h1 : os.drop k = os.getD k 0 :: os.drop (k + 1) := by
      rw [List.drop_eq_getElem_cons h]
      simp [List.getD_eq_getElem?_getD, List.getElem?_eq_getElem h]
    rw [← h1, List.take_append_drop]
  generalize os.getD k 0 = o at *
  rw [e, List.idxOf_append, if_neg hn]
  simp
  omega
theorem idx_old {os : List Nat} {k x : Nat} (h : x ∈ os.take k) : os.idxOf x < k := by
  have e : os = os.take k ++ os.drop k := (List.take_append_drop k os).symm
  have h1 : os.idxOf x = (os.take k).idxOf x := by
    conv => lhs; rw [e]
    rw [List.idxOf_append, if_pos h]
  rw [h1]
  have := List.idxOf_lt_length_of_mem h
  simp at this
  omega

theorem fp_old {os : List Nat} {k : Nat} (h : k < os.length) (hm : os.getD k 0 ∈ os.take k) (x : Nat) : fp os (k + 1) x = fp os k x := by
  unfold fp
  by_cases e : x ∈ os.take k
  · rw [if_pos e, if_pos ((mem_take_snoc h x).2 (.inl e))]
  · rw [if_neg e, if_neg (fun h' => by
      rcases (mem_take_snoc h x).1 h' with h1 | h1
      · exact e h1
      · rw [h1] at e; exact e hm)]
theorem fp_new {os : List Nat} {k : Nat} (h : k < os.length) (hm : os.getD k 0 ∉ os.take k) (x : Nat) : fp os (k + 1) x = if x = os.getD k 0 then (k : Int) else fp os k x := by
  unfold fp
  by_cases e : x = os.getD k 0
  · rw [if_pos e, if_pos ((mem_take_snoc h x).2 (.inr e)), e, idx_new h hm]
  · rw [if_neg e]
    by_cases e2 : x ∈ os.take k
    · rw [if_pos e2, if_pos ((mem_take_snoc h x).2 (.inl e2))]
    · rw [if_neg e2, if_neg (fun h' => by
        rcases (mem_take_snoc h x).1 h' with h1 | h1
        · exact e2 h1
        · exact e h1)]

/-- The first place tells whether place j is a first one. -/
theorem first_iff {os : List Nat} {j : Nat} (h : j < os.length) : fp os os.length (os.getD j 0) = (j : Int) ↔ os.getD j 0 ∉ os.take j := by
  have hm : os.getD j 0 ∈ os.take os.length := by
    rw [List.take_length, List.getD_eq_getElem?_getD, List.getElem?_eq_getElem h]
    simp
  unfold fp
  rw [if_pos hm]
  constructor
  · intro e hn
    have := idx_old hn
    omega
  · intro hn
    rw [idx_new h hn]

theorem sc_cons (R : List Nat) (fo o x : Nat) : sc (o :: R) fo x = if x = o then R.head?.getD fo else sc R fo x := by
  unfold sc
  simp only [nx]
  by_cases e : x = o <;> simp [e]

theorem back_new {os R : List Nat} {j : Nat} (h : j < os.length) (hm : os.getD j 0 ∉ os.take j) (hd : dd os = dd (os.take (j + 1)) ++ R) : dd os = dd (os.take j) ++ (os.getD j 0 :: R) := by
  rw [hd, dd_take os j h]
  unfold ddStep
  rw [if_neg (by rw [mem_dd]; exact hm)]
  simp
theorem back_old {os R : List Nat} {j : Nat} (h : j < os.length) (hm : ¬ os.getD j 0 ∉ os.take j) (hd : dd os = dd (os.take (j + 1)) ++ R) : dd os = dd (os.take j) ++ R := by
  rw [hd, dd_take os j h]
  unfold ddStep
  rw [if_pos (by rw [mem_dd]; exact Classical.byContradiction hm)]

set_option maxHeartbeats 2000000 in
theorem next_in (b off m cap n : Nat) (zs : List Int) (w : World) (hl : m ≤ cap) (hm2 : m ≤ 131072) (h0 : 0 < m) (hn1 : 1 ≤ n) (hn2 : n ≤ 65536) (hz : zs.length = cap)
    (hc : ∀ i, i < zs.length → w.cell? ⟨b, off + i, none⟩ = some (.int .i64 (zs.getD i 0))) (hx : b < w.heap.size) :
    Calls Trym.prog 4 #[.slice (some ⟨b, off, none⟩) m cap, .int .i64 n] w fun e w' => e = .returned (.bool true) ∧ Below w.heap.size w w' := by
  obtain ⟨i0, hi, hz0, hz1, hz2⟩ := info_parts Trym.info3
  have HB1 : Hid (i0.bytes * m ≤ 281474976710656) := hide (by rw [hz2]; omega)
  have HB2 : Hid (i0.bytes * n ≤ 281474976710656) := hide (by rw [hz2]; omega)
  have HM1 : Hid (m ≤ maxLen) := hide (by unfold maxLen; omega)
  have HM2 : Hid (n ≤ maxLen) := hide (by unfold maxLen; omega)
  have hsz : (Trym.prog.info? 3).map (·.size) = some 1 := by kernel_rfl
  have HSZ := hide hsz
  clear hsz
  have hmm : m ≤ maxLen := by unfold maxLen; omega
  have hd : decide (m ≤ 1048576) = true := decide_eq_true (by omega)
  have hzl : m ≤ zs.length := by omega
  clear hz
  have hq1 : decide ((131072 : Int) < (m : Int)) = false := decide_eq_false (by omega)
  have hq2 : decide ((n : Int) < 1) = false := decide_eq_false (by omega)
  have hq3 : decide ((65536 : Int) < (n : Int)) = false := decide_eq_false (by omega)
  have hq4 : ((m : Int) == 0) = false := by simp; omega
  go_enter Trym.func4, Trym.ntmps4
  go_wp2_with (go_at_call 11; refine (zz11_any _ _ _ _ _ hmm).mono ?_; rintro e w' ⟨rfl, rfl⟩)
  clear hq1 hq2 hq3 hq4 hd
  go_loop [5] (fun i => ∃ k : Nat, k ≤ m ∧ i = .int .i64 k ∧ Hid (∀ j, j < k → 0 ≤ zs.getD j 0 ∧ zs.getD j 0 < (n : Int))) (fun i => m - (intOf i).toNat)
  case atStart => exact ⟨0, Nat.zero_le _, rfl, fun j h => absurd h (by omega)⟩
  case round =>
    obtain ⟨k, hk, rfl, HR⟩ := hrel
    by_cases hlt : k < m
    · have hcx := hc k (by omega)
      obtain ⟨v, hv⟩ : ∃ v, v = zs.getD k 0 := ⟨_, rfl⟩
      rw [← hv] at hcx
      have HV := hide hv
      clear hv
      by_cases h1 : v < 0
      · go_wp2
        go_ret
        exact ⟨rfl, Below.refl _ _⟩
      · by_cases h2 : (n : Int) ≤ v
        · go_wp2
          go_ret
          exact ⟨rfl, Below.refl _ _⟩
        · have HR' : Hid (∀ j, j < k + 1 → 0 ≤ zs.getD j 0 ∧ zs.getD j 0 < (n : Int)) := by
            intro j hj
            by_cases e : j = k
            · subst e; rw [← HV.out]; omega
            · exact HR.out j (by omega)
          clear HR
          go_wp2
          go_round
          case rel => exact ⟨k + 1, by omega, by go_num, HR'⟩
          case measure => simp [intOf]; omega
    · obtain rfl : m = k := by omega
      have hlen := nats_len hzl
      have hlt' := nats_lt hzl HR.out
      have HC := hide (fun (w : World) (g : Nat) (z : Value) => own_of_copy (w := w) (g := g) (z := z) hzl HR.out)
      clear hlt HR
      go_wp2_with (refine wpList_make_full _ rfl (.tmp 53) (.tmp 53) 36 rfl w.heap.size 3 i0 (.int .i64 0) 1 Trym.underlying36 hi hz0 hz1 .i64 .i64 _ _ m rfl rfl rfl rfl HB1.out HM1.out (Nat.le_refl _) ?_)
      intro w1 hown hgr
      have hb1 : Below w.heap.size w w1 := (Below.refl _ _).grown hgr (Nat.le_refl _) (by intro k h; cases h)
      have ht1 : TabV w1 w.heap.size 3 m (fun _ => .int .i64 0) := tab_of_made hown
      clear hown hgr
      have HX1 := hide (copy_src (g := w.heap.size) hzl hx hc hb1)
      have HX2 := hide (copy_len hzl)
      have HX3 := hide (copy_fit hzl (.int .i64 0))
      have HX4 := hide (ints_oneCell .i64 (zs.take m))
      have HC' := hide (fun (w' : World) => HC.out w' w.heap.size (.int .i64 0))
      clear HC hc
      generalize (zs.take m).map (Value.int .i64) = CS at *
      go_wp2_with (refine wpList_copy_splice rfl (.tmp 55) (.tmp 56) 36 36 rfl 3 Trym.underlying36 HSZ.out _ _ _ _ _ _ rfl rfl w.heap.size 0 _ 3 ht1 CS HX2.out HX1.out HX3.out HX4.out w.heap.size w hb1 (Nat.le_refl _) ?_)
      intro w2 hg2 hb2
      have hO2 := HC'.out w2 hg2.out
      clear hg2 HX1 HX2 HX3 HX4 HC' ht1 hb1 w1 hk
      generalize nats zs m = os at *
      have HO := hide hlen
      have hol : m ≤ os.length := by omega
      have hol2 : os.length ≤ m := by omega
      have RG := hide (zzRing_any w.heap.size m n os w2 hlen h0 hm2 hn2 hlt' hO2)
      clear hlen
      go_wp2_with (first | (go_at_call 12; refine RG.out.mono ?_; rintro e w3 ⟨rfl, hT3, hB3⟩) | (refine wpList_make_full _ rfl (.tmp 66) (.tmp 66) 36 rfl _ 3 i0 (.int .i64 0) 1 Trym.underlying36 hi hz0 hz1 .i64 .i64 _ _ n rfl rfl rfl rfl HB2.out HM2.out (Nat.le_refl _) ?_))
      intro w4 hown4 hgr4
      have hA := hO2.lt
      have hB := hT3.lt
      have hO3 : OwnT w3 w.heap.size os := hO2.keep hB3 hA
      have hb3 : Below w.heap.size w w3 := hb2.trans (hB3.mono (by omega))
      have hb4 : Below w3.heap.size w3 w4 := (Below.refl _ _).grown hgr4 (Nat.le_refl _) (by intro k h; cases h)
      have ht4 : TabV w4 w3.heap.size 3 n (fun _ => .int .i64 0) := tab_of_made hown4
      clear hown4 hgr4 RG hO2 hb2 hB3
      go_wp2
      go_loopw [9] (fun i wx => ∃ k : Nat, k ≤ n ∧ i = .int .i64 k ∧ TabV wx w3.heap.size 3 n (fun x => .int .i64 (if x < k then -1 else 0)) ∧ Below w3.heap.size w3 wx) (fun i _ => n - (intOf i).toNat)
      case atStart => exact ⟨0, Nat.zero_le _, rfl, ht4, hb4⟩
      case round =>
      clear ht4 hb4
      obtain ⟨k, hk, rfl, ht, hb⟩ := hrel
      by_cases hlt : k < n
      · have hcy := ht.cell hlt
        have hfr := ht.froz k
        have R1 : TabV (wr.setCell ⟨w3.heap.size, k, none⟩ (.int .i64 (-1))) w3.heap.size 3 n (fun x => .int .i64 (if x < k + 1 then -1 else 0)) :=
          (ht.set k (.int .i64 (-1))).congr (fun x hx => by unfold upd; by_cases e : x = k <;> simp [e]; by_cases e2 : x < k <;> simp [e2] <;> omega)
        have R2 : Below w3.heap.size w3 (wr.setCell ⟨w3.heap.size, k, none⟩ (.int .i64 (-1))) := hb.setCell (Nat.le_refl _) _
        clear ht
        obtain ⟨v, hv⟩ : ∃ v, v = (Value.int .i64 (if k < k then -1 else 0)) := ⟨_, rfl⟩
        rw [← hv] at hcy
        clear hv
        go_wp2
        go_roundw
        case rel => exact ⟨k + 1, by omega, by go_num, R1, R2⟩
        case measure => simp [intOf]; omega
      obtain rfl : n = k := by omega
      have ht5 : TabV wr w3.heap.size 3 n (fun x => .int .i64 (fp os 0 x)) := ht.congr (fun x hx => by simp [hx, fp])
      clear ht hlt hk
      go_wp2
      go_loopw [10] (fun i wx => ∃ k : Nat, k ≤ m ∧ i = .int .i64 k ∧ TabV wx w3.heap.size 3 n (fun x => .int .i64 (fp os k x)) ∧ Below w3.heap.size w3 wx) (fun i _ => m - (intOf i).toNat)
      case atStart => exact ⟨0, Nat.zero_le _, rfl, ht5, hb⟩
      case round =>
      clear ht5 hb
      obtain ⟨k, hk, rfl, ht, hb⟩ := hrel
      have hOr : OwnT wr w.heap.size os := hO3.keep hb (by omega)
      by_cases hlt : k < m
      · have hco : wr.cell? ⟨w.heap.size, k, none⟩ = some (.int .i64 ((os.getD k 0 : Nat) : Int)) := hOr.cell (by omega)
        have hon : os.getD k 0 < n := hlt' _ (by rw [List.getD_eq_getElem?_getD, List.getElem?_eq_getElem (by omega)]; simp)
        have hcf := ht.cell hon
        have HN := hide (fp_new (os := os) (k := k) (by omega))
        have HP := hide (fp_old (os := os) (k := k) (by omega))
        have hmem : os.getD k 0 ∈ os.take k → (0 : Int) ≤ fp os k (os.getD k 0) := fun h => by unfold fp; rw [if_pos h]; omega
        have hnot : os.getD k 0 ∉ os.take k → fp os k (os.getD k 0) = -1 := fun h => by unfold fp; rw [if_neg h]
        generalize os.getD k 0 = o at *
        by_cases hop : o ∈ os.take k
        · have hge := hmem hop
          have R1 : TabV wr w3.heap.size 3 n (fun x => .int .i64 (fp os (k + 1) x)) := ht.congr (fun x hx => by rw [HP.out hop])
          generalize fp os k o = v at *
          clear HN HP hmem hnot hop ht hOr
          go_wp2
          go_roundw
          case rel => exact ⟨k + 1, by omega, by go_num, R1, hb⟩
          case measure => simp [intOf]; omega
        · rw [hnot hop] at hcf
          have hfr := ht.froz o
          have R1 : TabV (wr.setCell ⟨w3.heap.size, o, none⟩ (.int .i64 (k : Int))) w3.heap.size 3 n (fun x => .int .i64 (fp os (k + 1) x)) :=
            (ht.set o (.int .i64 (k : Int))).congr (fun x hx => by rw [HN.out hop]; unfold upd; by_cases e : x = o <;> simp [e])
          have R2 : Below w3.heap.size w3 (wr.setCell ⟨w3.heap.size, o, none⟩ (.int .i64 (k : Int))) := hb.setCell (Nat.le_refl _) _
          clear HN HP hmem hnot hop ht hOr
          go_wp2
          go_roundw
          case rel => exact ⟨k + 1, by omega, by go_num, R1, R2⟩
          case measure => simp [intOf]; omega
      obtain rfl : m = k := by omega
      clear hlt hk
      go_wp2_with (refine wpList_make_full _ rfl (.tmp 97) (.tmp 97) 36 rfl _ 3 i0 (.int .i64 0) 1 Trym.underlying36 hi hz0 hz1 .i64 .i64 _ _ n rfl rfl rfl rfl HB2.out HM2.out (Nat.le_refl _) ?_)
      intro w6 hown6 hgr6
      obtain ⟨w5, hw5⟩ : ∃ x, x = wr := ⟨_, rfl⟩
      subst hw5
      have hC := ht.lt
      have hG5 := hT3.keep hb hB
      have hb5 : Below w.heap.size w w5 := hb3.trans (hb.mono (by omega))
      have hb6 : Below w5.heap.size w5 w6 := (Below.refl _ _).grown hgr6 (Nat.le_refl _) (by intro k h; cases h)
      have ht6 : TabV w6 w5.heap.size 3 n (fun _ => .int .i64 0) := tab_of_made hown6
      have HF : Hid (os.getD 0 0 < n) := hide (hlt' _ (by rw [List.getD_eq_getElem?_getD, List.getElem?_eq_getElem (by omega)]; simp))
      have hc0 : w5.cell? ⟨w.heap.size, 0, none⟩ = some (.int .i64 ((os.getD 0 0 : Nat) : Int)) := hOr.cell (by omega)
      clear hown6 hgr6 hT3 hO3 hb3 hb
      generalize os.getD 0 0 = fo at *
      have hm0 : (0 : Int) < (m : Int) := by omega
      go_wp2
      go_loopw [12] (fun i wx => ∃ k : Nat, k ≤ n ∧ i = .int .i64 k ∧ TabV wx w5.heap.size 3 n (fun x => .int .i64 (if x < k then (fo : Int) else 0)) ∧ Below w5.heap.size w5 wx) (fun i _ => n - (intOf i).toNat)
      case atStart => exact ⟨0, Nat.zero_le _, rfl, ht6, hb6⟩
      case round =>
      clear ht6 hb6
      obtain ⟨k, hk, rfl, ht7, hb⟩ := hrel
      have hc0' : wr.cell? ⟨w.heap.size, 0, none⟩ = some (.int .i64 (fo : Int)) := (hb.cell (p := ⟨w.heap.size, 0, none⟩) (by show w.heap.size < w5.heap.size; omega)).trans hc0
      by_cases hlt : k < n
      · have hcy := ht7.cell hlt
        have hfr := ht7.froz k
        have R1 : TabV (wr.setCell ⟨w5.heap.size, k, none⟩ (.int .i64 (fo : Int))) w5.heap.size 3 n (fun x => .int .i64 (if x < k + 1 then (fo : Int) else 0)) :=
          (ht7.set k (.int .i64 (fo : Int))).congr (fun x hx => by unfold upd; by_cases e : x = k <;> simp [e]; by_cases e2 : x < k <;> simp [e2] <;> omega)
        have R2 : Below w5.heap.size w5 (wr.setCell ⟨w5.heap.size, k, none⟩ (.int .i64 (fo : Int))) := hb.setCell (Nat.le_refl _) _
        clear ht7
        obtain ⟨v, hv⟩ : ∃ v, v = (Value.int .i64 (if k < k then (fo : Int) else 0)) := ⟨_, rfl⟩
        rw [← hv] at hcy
        clear hv
        go_wp2
        go_roundw
        case rel => exact ⟨k + 1, by omega, by go_num, R1, R2⟩
        case measure => simp [intOf]; omega
      obtain rfl : n = k := by omega
      have ht8 : TabV wr w5.heap.size 3 n (fun x => .int .i64 ((sc [] fo x : Nat) : Int)) := ht7.congr (fun x hx => by simp [hx, sc, nx])
      clear ht7 hlt hk hc0
      go_wp2
      go_loopw [13, 14, 15] (fun nv i _ wx => ∃ (z : Int) (R : List Nat), -1 ≤ z ∧ z < m ∧ i = .int .i64 z ∧ nv = .int .i64 ((R.head?.getD fo : Nat) : Int) ∧ Hid (dd os = dd (os.take (z + 1).toNat) ++ R) ∧ TabV wx w5.heap.size 3 n (fun x => .int .i64 ((sc R fo x : Nat) : Int)) ∧ Below w5.heap.size w5 wx) (fun _ i _ _ => (intOf i + 1).toNat)
      case atStart => exact ⟨(m : Int) - 1, [], by omega, by omega, rfl, rfl, by rw [List.append_nil, List.take_of_length_le (by omega)]; rfl, ht8, hb⟩
      case round =>
      clear ht8 hb hc0'
      obtain ⟨z, R, hz1', hz2', rfl, rfl, HD, ht9, hb⟩ := hrel
      obtain ⟨nv, hnv⟩ : ∃ nv, nv = R.head?.getD fo := ⟨_, rfl⟩
      rw [← hnv]
      have HNV := hide hnv
      clear hnv
      by_cases hz : z = -1
      · subst hz
        have HE : Hid (dd os = R) := HD
        have hTw : TabV wr w5.heap.size 3 n (fun x => .int .i64 ((sc (dd os) fo x : Nat) : Int)) := by rw [HE.out]; exact ht9
        have hTg := hG5.keep hb (by omega)
        have hbw : Below w.heap.size w wr := hb5.trans (hb.mono (by omega))
        clear HD HE ht9 hb HNV hz1' hz2'
        obtain ⟨w8, hw8⟩ : ∃ x, x = wr := ⟨_, rfl⟩
        subst hw8
        go_wp2
        go_loopw [16] (fun i wx => ∃ k : Nat, k ≤ n ∧ i = .int .i64 k ∧ ∃ nd, wx = w8.drewN nd) (fun i _ => n - (intOf i).toNat)
        case atStart => exact ⟨0, Nat.zero_le _, rfl, 0, rfl⟩
        case round =>
        obtain ⟨k, hk, rfl, nd, rfl⟩ := hrel
        by_cases hlt : k < n
        · have hcg := hTg.cell hlt
          have hcw := hTw.cell hlt
          generalize ((sc (dd os) fo k : Nat) : Int) = v at hcg hcw
          go_wp2
          go_region
          all_goals go_wp2
          go_roundw
          case rel => exact ⟨k + 1, by omega, by go_num, _, rfl⟩
          case measure => simp [intOf]; omega
        · go_wp2
          go_ret
          exact ⟨rfl, below_drewN hbw _⟩
      · obtain ⟨j, rfl⟩ : ∃ j : Nat, z = (j : Int) := ⟨z.toNat, by omega⟩
        have hjm : j < m := by omega
        rw [show ((j : Int) + 1).toNat = j + 1 by omega] at HD
        have hOr' : OwnT wr w.heap.size os := hOr.keep hb (by omega)
        have hft := ht.keep hb hC
        have hco : wr.cell? ⟨w.heap.size, j, none⟩ = some (.int .i64 ((os.getD j 0 : Nat) : Int)) := hOr'.cell (by omega)
        have hon : os.getD j 0 < n := hlt' _ (by rw [List.getD_eq_getElem?_getD, List.getElem?_eq_getElem (by omega)]; simp)
        have hcf := hft.cell hon
        have hiff := first_iff (os := os) (j := j) (by omega)
        rw [show os.length = m by omega] at hiff
        have HN := hide (back_new (os := os) (R := R) (j := j) (by omega))
        have HP := hide (back_old (os := os) (R := R) (j := j) (by omega))
        generalize os.getD j 0 = o at *
        by_cases hop : o ∉ os.take j
        · have hfj := hiff.2 hop
          rw [hfj] at hcf
          have HD' := hide (HN.out hop HD.out)
          have hcy := ht9.cell hon
          have hfr := ht9.froz o
          have R1 : TabV (wr.setCell ⟨w5.heap.size, o, none⟩ (.int .i64 (nv : Int))) w5.heap.size 3 n (fun x => .int .i64 ((sc (o :: R) fo x : Nat) : Int)) :=
            (ht9.set o (.int .i64 (nv : Int))).congr (fun x hx => by rw [sc_cons, ← HNV.out]; unfold upd; by_cases e : x = o <;> simp [e])
          have R2 : Below w5.heap.size w5 (wr.setCell ⟨w5.heap.size, o, none⟩ (.int .i64 (nv : Int))) := hb.setCell (Nat.le_refl _) _
          generalize ((sc R fo o : Nat) : Int) = v at hcy
          clear HN HP HD hiff hfj hop ht9 hft hOr' HNV
          go_wp2
          go_roundw
          case rel => exact ⟨(j : Int) - 1, o :: R, by omega, by omega, rfl, rfl, by rw [show ((j : Int) - 1 + 1).toNat = j by omega]; exact HD', R1, R2⟩
          case measure => simp [intOf]
        · have hfj : ¬ fp os m o = (j : Int) := fun h => hop (hiff.1 h)
          have HD' := hide (HP.out hop HD.out)
          generalize fp os m o = v at *
          have hvj : (v == (j : Int)) = false := by simpa using hfj
          clear HN HP HD hiff hfj hop hft hOr'
          go_wp2
          go_roundw
          case rel => exact ⟨(j : Int) - 1, R, by omega, by omega, rfl, by rw [HNV.out], by rw [show ((j : Int) - 1 + 1).toNat = j by omega]; exact HD', ht9, hb⟩
          case measure => simp [intOf]

end Go.Proofs.Qxb6605173aMods
