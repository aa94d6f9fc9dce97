/-
  THE WALK of FnRingOrderIsOneCycle (5).
-/
import Derived.Test.Qxb6605173aModsRingA
namespace Go.Proofs.Qxb6605173aMods
open Go.RowKit
set_option linter.unusedVariables false
set_option linter.unusedSimpArgs false

theorem nx_none (l : List Nat) (x : Nat) (h : x ∉ l) : nx l x = none := by
  induction l with
  | nil => rfl
  | cons a r ih =>
    simp only [List.mem_cons, not_or] at h
    simp only [nx]
    rw [if_neg h.1, ih h.2]
theorem nx_at (l : List Nat) (hd : l.Nodup) (s : Nat) (h : s < l.length) : nx l (l.getD s 0) = l[s + 1]? := by
  induction l generalizing s with
  | nil => simp at h
  | cons a r ih =>
    rw [List.nodup_cons] at hd
    cases s with
    | zero => simp [nx, List.head?_eq_getElem?]
    | succ s =>
      have h' : s < r.length := by simpa using h
      have hm : r.getD s 0 ∈ r := by
        rw [List.getD_eq_getElem?_getD, List.getElem?_eq_getElem h']; simp
      have e : (a :: r).getD (s + 1) 0 = r.getD s 0 := by simp
      rw [e]
      simp only [nx]
      rw [if_neg (fun e => hd.1 (by rw [← e]; exact hm)), ih hd.2 s h']
      simp

/-- The address at step s of the walk round the ring. -/
def cur (ds : List Nat) (fo s : Nat) : Nat := (ds ++ [fo]).getD s 0
theorem cur_lt {ds : List Nat} {fo s : Nat} (h : s < ds.length) : cur ds fo s = ds.getD s 0 := by
  unfold cur
  simp [List.getD_eq_getElem?_getD, List.getElem?_append, h]
theorem cur_end (ds : List Nat) (fo : Nat) : cur ds fo ds.length = fo := by
  unfold cur
  simp [List.getD_eq_getElem?_getD]
theorem cur_step {ds : List Nat} {fo s : Nat} (hd : ds.Nodup) (h : s < ds.length) : sc ds fo (cur ds fo s) = cur ds fo (s + 1) := by
  rw [cur_lt h]
  unfold sc
  rw [nx_at ds hd s h]
  unfold cur
  rw [List.getD_eq_getElem?_getD, List.getElem?_append]
  by_cases e : s + 1 < ds.length
  · rw [if_pos e, List.getElem?_eq_getElem e]; rfl
  · rw [if_neg e, List.getElem?_eq_none (by omega), show s + 1 - ds.length = 0 by omega]; rfl
theorem cur_new {ds : List Nat} {fo s : Nat} (hd : ds.Nodup) (h : s < ds.length) : cur ds fo s ∉ ds.take s := by
  rw [cur_lt h]
  intro hm
  have e : ds = ds.take s ++ ds.drop s := (List.take_append_drop s ds).symm
  have h2 : ds.getD s 0 ∈ ds.drop s := by
    rw [List.drop_eq_getElem_cons h, List.getD_eq_getElem?_getD, List.getElem?_eq_getElem h]; exact List.mem_cons_self
  rw [e, List.nodup_append] at hd
  exact hd.2.2 _ hm _ h2 rfl
theorem cur_mem {ds : List Nat} {fo s : Nat} (h : s < ds.length) : cur ds fo s ∈ ds := by
  rw [cur_lt h, List.getD_eq_getElem?_getD, List.getElem?_eq_getElem h]; simp

/-- Is x among the first k of a list? -/
def ow (l : List Nat) (k x : Nat) : Bool := decide (x ∈ l.take k)
theorem ow_step {l : List Nat} {k : Nat} (h : k < l.length) (x : Nat) : ow l (k + 1) x = if x = l.getD k 0 then true else ow l k x := by
  unfold ow
  rw [take_snoc l k h]
  generalize l.getD k 0 = o
  by_cases e : x = o <;> simp [e]
theorem ow_zero (l : List Nat) (x : Nat) : ow l 0 x = false := by simp [ow]

/-- How many owners have come. -/
def cnt (os : List Nat) (k : Nat) : Nat := (dd (os.take k)).length
theorem cnt_old {os : List Nat} {k : Nat} (h : k < os.length) (hm : ow os k (os.getD k 0) = true) : cnt os (k + 1) = cnt os k := by
  unfold cnt
  rw [dd_take os k h]
  unfold ddStep
  rw [if_pos (by rw [mem_dd]; simpa [ow] using hm)]
theorem cnt_new {os : List Nat} {k : Nat} (h : k < os.length) (hm : ow os k (os.getD k 0) = false) : cnt os (k + 1) = cnt os k + 1 := by
  unfold cnt
  rw [dd_take os k h]
  unfold ddStep
  rw [if_neg (by rw [mem_dd]; simpa [ow] using hm)]
  simp
theorem ow_same {os : List Nat} {k : Nat} (h : k < os.length) (hm : ow os k (os.getD k 0) = true) (x : Nat) : ow os (k + 1) x = ow os k x := by
  rw [ow_step h]
  by_cases e : x = os.getD k 0
  · rw [if_pos e, e, hm]
  · rw [if_neg e]
theorem cnt_le (os : List Nat) (k : Nat) (h : k ≤ os.length) : cnt os k ≤ k := by
  induction k with
  | zero => simp [cnt, dd]
  | succ k ih =>
    have := ih (by omega)
    cases hm : ow os k (os.getD k 0)
    · rw [cnt_new (by omega) hm]; omega
    · rw [cnt_old (by omega) hm]; omega

set_option maxHeartbeats 2000000 in
theorem cycle_in (b off m cap n : Nat) (zs : List Int) (w : World) (hl : m ≤ cap) (hm2 : m ≤ 131072) (h0 : 0 < m) (hn1 : 1 ≤ n) (hn2 : n ≤ 65536) (hz : zs.length = cap)
    (hc : ∀ i, i < zs.length → w.cell? ⟨b, off + i, none⟩ = some (.int .i64 (zs.getD i 0))) (hx : b < w.heap.size) :
    Calls Trym.prog 5 #[.slice (some ⟨b, off, none⟩) m cap, .int .i64 n] w fun e w' => e = .returned (.bool true) ∧ Below w.heap.size w w' := by
  obtain ⟨i0, hi, hz0, hz1, hz2⟩ := info_parts Trym.info3
  have HB1 : Hid (i0.bytes * m ≤ 281474976710656) := hide (by rw [hz2]; omega)
  obtain ⟨j0, hj, hy0, hy1, hy2⟩ := info_parts Trym.info4
  have HB2 : Hid (j0.bytes * n ≤ 281474976710656) := hide (by rw [hy2]; omega)
  have HM1 : Hid (m ≤ maxLen) := hide (by unfold maxLen; omega)
  have HM2 : Hid (n ≤ maxLen) := hide (by unfold maxLen; omega)
  have hsz : (Trym.prog.info? 3).map (·.size) = some 1 := by kernel_rfl
  have HSZ := hide hsz
  clear hsz
  have hmm : m ≤ maxLen := by unfold maxLen; omega
  have hd : decide (m ≤ 1048576) = true := decide_eq_true (by omega)
  have hzl : m ≤ zs.length := by omega
  clear hz
  have hq1 : decide ((131072 : Int) < (m : Int)) = false := decide_eq_false (by omega)
  have hq2 : decide ((n : Int) < 1) = false := decide_eq_false (by omega)
  have hq3 : decide ((65536 : Int) < (n : Int)) = false := decide_eq_false (by omega)
  have hq4 : ((m : Int) == 0) = false := by simp; omega
  go_enter Trym.func5, Trym.ntmps5
  go_wp2_with (go_at_call 13; refine (zz13_any _ _ _ _ _ hmm).mono ?_; rintro e w' ⟨rfl, rfl⟩)
  clear hq1 hq2 hq3 hq4 hd
  go_loop [5] (fun i => ∃ k : Nat, k ≤ m ∧ i = .int .i64 k ∧ Hid (∀ j, j < k → 0 ≤ zs.getD j 0 ∧ zs.getD j 0 < (n : Int))) (fun i => m - (intOf i).toNat)
  case atStart => exact ⟨0, Nat.zero_le _, rfl, fun j h => absurd h (by omega)⟩
  case round =>
    obtain ⟨k, hk, rfl, HR⟩ := hrel
    by_cases hlt : k < m
    · have hcx := hc k (by omega)
      obtain ⟨v, hv⟩ : ∃ v, v = zs.getD k 0 := ⟨_, rfl⟩
      rw [← hv] at hcx
      have HV := hide hv
      clear hv
      by_cases h1 : v < 0
      · go_wp2
        go_ret
        exact ⟨rfl, Below.refl _ _⟩
      · by_cases h2 : (n : Int) ≤ v
        · go_wp2
          go_ret
          exact ⟨rfl, Below.refl _ _⟩
        · have HR' : Hid (∀ j, j < k + 1 → 0 ≤ zs.getD j 0 ∧ zs.getD j 0 < (n : Int)) := by
            intro j hj
            by_cases e : j = k
            · subst e; rw [← HV.out]; omega
            · exact HR.out j (by omega)
          clear HR
          go_wp2
          go_round
          case rel => exact ⟨k + 1, by omega, by go_num, HR'⟩
          case measure => simp [intOf]; omega
    · obtain rfl : m = k := by omega
      have hlen := nats_len hzl
      have hlt' := nats_lt hzl HR.out
      have HC := hide (fun (w : World) (g : Nat) (z : Value) => own_of_copy (w := w) (g := g) (z := z) hzl HR.out)
      clear hlt HR
      go_wp2_with (refine wpList_make_full _ rfl (.tmp 51) (.tmp 51) 36 rfl w.heap.size 3 i0 (.int .i64 0) 1 Trym.underlying36 hi hz0 hz1 .i64 .i64 _ _ m rfl rfl rfl rfl HB1.out HM1.out (Nat.le_refl _) ?_)
      intro w1 hown hgr
      have hb1 : Below w.heap.size w w1 := (Below.refl _ _).grown hgr (Nat.le_refl _) (by intro k h; cases h)
      have ht1 : TabV w1 w.heap.size 3 m (fun _ => .int .i64 0) := tab_of_made hown
      clear hown hgr
      have HX1 := hide (copy_src (g := w.heap.size) hzl hx hc hb1)
      have HX2 := hide (copy_len hzl)
      have HX3 := hide (copy_fit hzl (.int .i64 0))
      have HX4 := hide (ints_oneCell .i64 (zs.take m))
      have HC' := hide (fun (w' : World) => HC.out w' w.heap.size (.int .i64 0))
      clear HC hc
      generalize (zs.take m).map (Value.int .i64) = CS at *
      go_wp2_with (refine wpList_copy_splice rfl (.tmp 53) (.tmp 54) 36 36 rfl 3 Trym.underlying36 HSZ.out _ _ _ _ _ _ rfl rfl w.heap.size 0 _ 3 ht1 CS HX2.out HX1.out HX3.out HX4.out w.heap.size w hb1 (Nat.le_refl _) ?_)
      intro w2 hg2 hb2
      have hO2 := HC'.out w2 hg2.out
      clear hg2 HX1 HX2 HX3 HX4 HC' ht1 hb1 w1 hk
      generalize nats zs m = os at *
      have HO := hide hlen
      have hol : m ≤ os.length := by omega
      have hol2 : os.length ≤ m := by omega
      have RG := hide (zzRing_any w.heap.size m n os w2 hlen h0 hm2 hn2 hlt' hO2)
      clear hlen
      go_wp2_with (first | (go_at_call 12; refine RG.out.mono ?_; rintro e w3 ⟨rfl, hT3, hB3⟩) | (refine wpList_make_full _ rfl (.tmp 64) (.tmp 64) 39 rfl _ 4 j0 (.bool false) 1 Trym.underlying39 hj hy0 hy1 .i64 .i64 _ _ n rfl rfl rfl rfl HB2.out HM2.out (Nat.le_refl _) ?_))
      intro w4 hown4 hgr4
      have hA := hO2.lt
      have hB := hT3.lt
      have hO3 : OwnT w3 w.heap.size os := hO2.keep hB3 hA
      have hb3 : Below w.heap.size w w3 := hb2.trans (hB3.mono (by omega))
      have hb4 : Below w3.heap.size w3 w4 := (Below.refl _ _).grown hgr4 (Nat.le_refl _) (by intro k h; cases h)
      have ht4 : TabV w4 w3.heap.size 4 n (fun x => .bool (ow os 0 x)) := (tab_of_made hown4).congr (fun x hx => by rw [ow_zero])
      clear hown4 hgr4 RG hO2 hb2 hB3
      go_wp2
      go_loopw [9, 10] (fun c i wx => ∃ k : Nat, k ≤ m ∧ i = .int .i64 k ∧ c = .int .i64 (cnt os k : Nat) ∧ TabV wx w3.heap.size 4 n (fun x => .bool (ow os k x)) ∧ Below w3.heap.size w3 wx) (fun _ i _ => m - (intOf i).toNat)
      case atStart => exact ⟨0, Nat.zero_le _, rfl, rfl, ht4, hb4⟩
      case round =>
      clear ht4 hb4
      obtain ⟨k, hk, rfl, rfl, ht, hb⟩ := hrel
      have hOr : OwnT wr w.heap.size os := hO3.keep hb (by omega)
      have hcl := cnt_le os k (by omega)
      by_cases hlt : k < m
      · have hco : wr.cell? ⟨w.heap.size, k, none⟩ = some (.int .i64 ((os.getD k 0 : Nat) : Int)) := hOr.cell (by omega)
        have hon : os.getD k 0 < n := hlt' _ (by rw [List.getD_eq_getElem?_getD, List.getElem?_eq_getElem (by omega)]; simp)
        have hcf := ht.cell hon
        have HS := hide (ow_step (l := os) (k := k) (by omega))
        have HO1 := hide (ow_same (os := os) (k := k) (by omega))
        have HC1 := hide (cnt_old (os := os) (k := k) (by omega))
        have HC2 := hide (cnt_new (os := os) (k := k) (by omega))
        generalize os.getD k 0 = o at *
        cases hob : ow os k o with
        | true =>
          rw [hob] at hcf
          have e1 := hide (HC1.out hob)
          have R1 : TabV wr w3.heap.size 4 n (fun x => .bool (ow os (k + 1) x)) := ht.congr (fun x hx => by rw [HO1.out hob])
          clear HS HO1 HC1 HC2 hob ht hOr
          generalize cnt os k = c at *
          go_wp2
          go_roundw
          case rel => exact ⟨k + 1, by omega, by go_num, by rw [e1.out], R1, hb⟩
          case measure => simp [intOf]; omega
        | false =>
          rw [hob] at hcf
          have e1 := hide (HC2.out hob)
          have hfr := ht.froz o
          have R1 : TabV (wr.setCell ⟨w3.heap.size, o, none⟩ (.bool true)) w3.heap.size 4 n (fun x => .bool (ow os (k + 1) x)) :=
            (ht.set o (.bool true)).congr (fun x hx => by rw [HS.out]; unfold upd; by_cases e : x = o <;> simp [e])
          have R2 : Below w3.heap.size w3 (wr.setCell ⟨w3.heap.size, o, none⟩ (.bool true)) := hb.setCell (Nat.le_refl _) _
          clear HS HO1 HC1 HC2 hob ht hOr
          generalize cnt os k = c at *
          go_wp2
          go_roundw
          case rel => exact ⟨k + 1, by omega, by go_num, by rw [e1.out]; go_num, R1, R2⟩
          case measure => simp [intOf]; omega
      obtain rfl : m = k := by omega
      have HK : Hid (cnt os m = (dd os).length) := hide (by unfold cnt; rw [List.take_of_length_le (by omega)])
      have hto : TabV wr w3.heap.size 4 n (fun x => .bool (decide (x ∈ os))) := ht.congr (fun x hx => by unfold ow; rw [List.take_of_length_le (by omega)])
      clear hlt hk ht
      go_wp2_with (refine wpList_make_full _ rfl (.tmp 88) (.tmp 88) 39 rfl _ 4 j0 (.bool false) 1 Trym.underlying39 hj hy0 hy1 .i64 .i64 _ _ n rfl rfl rfl rfl HB2.out HM2.out (Nat.le_refl _) ?_)
      intro w6 hown6 hgr6
      obtain ⟨w5, hw5⟩ : ∃ x, x = wr := ⟨_, rfl⟩
      subst hw5
      have hC := hto.lt
      have hG5 := hT3.keep hb hB
      have hb5 : Below w.heap.size w w5 := hb3.trans (hb.mono (by omega))
      have hb6 : Below w5.heap.size w5 w6 := (Below.refl _ _).grown hgr6 (Nat.le_refl _) (by intro k h; cases h)
      have ht6 : TabV w6 w5.heap.size 4 n (fun x => .bool (ow (dd os) 0 x)) := (tab_of_made hown6).congr (fun x hx => by rw [ow_zero])
      have hc0 : w5.cell? ⟨w.heap.size, 0, none⟩ = some (.int .i64 ((os.getD 0 0 : Nat) : Int)) := hOr.cell (by omega)
      have hc6 : w6.cell? ⟨w.heap.size, 0, none⟩ = some (.int .i64 ((os.getD 0 0 : Nat) : Int)) := (hOr.keep hb6 (by omega)).cell (by omega)
      have HFD : Hid (∀ x, x ∈ dd os → x < n) := hide (fun x hx => hlt' x ((mem_dd os x).1 hx))
      have HMD : Hid (∀ x, x ∈ os ↔ x ∈ dd os) := hide (fun x => (mem_dd os x).symm)
      have HND := hide (nodup_dd os)
      have HC0 : Hid (cur (dd os) (os.getD 0 0) 0 = os.getD 0 0) := hide (by
        have h1 := dd_one os (by omega)
        have hl1 : 0 < (dd os).length := by
          have : os.getD 0 0 ∈ dd os := by
            rw [mem_dd, List.getD_eq_getElem?_getD, List.getElem?_eq_getElem (by omega)]; simp
          exact List.length_pos_of_mem this
        rw [cur_lt hl1]
        exact dd_head os (by omega))
      clear hown6 hgr6 hT3 hO3 hb3 hb
      generalize os.getD 0 0 = fo at *
      generalize cnt os m = K at *
      have hm0 : (0 : Int) < (m : Int) := by omega
      go_wp2
      go_loopw [12, 13] (fun c i wx => ∃ s : Nat, s ≤ K ∧ i = .int .i64 s ∧ c = .int .i64 (cur (dd os) fo s : Nat) ∧ TabV wx w5.heap.size 4 n (fun x => .bool (ow (dd os) s x)) ∧ Below w5.heap.size w5 wx) (fun _ i _ => K - (intOf i).toNat)
      case atStart => exact ⟨0, Nat.zero_le _, rfl, by rw [HC0.out], ht6, hb6⟩
      case round =>
      clear ht6 hb6 hc6 HC0
      obtain ⟨s, hs, rfl, rfl, ht7, hb⟩ := hrel
      have hKl := HK.out
      have hto' := hto.keep hb hC
      have hG' := hG5.keep hb (by omega)
      have hc0' : wr.cell? ⟨w.heap.size, 0, none⟩ = some (.int .i64 (fo : Int)) := (hb.cell (p := ⟨w.heap.size, 0, none⟩) (by show w.heap.size < w5.heap.size; omega)).trans hc0
      by_cases hlt : s < K
      · have hsl : s < (dd os).length := by omega
        have HN := hide (cur_step (fo := fo) HND.out hsl)
        have hcm := cur_mem (fo := fo) hsl
        have hcn := cur_new (fo := fo) HND.out hsl
        have hcn' : ow (dd os) s (cur (dd os) fo s) = false := by simp [ow, hcn]
        have hca : cur (dd os) fo s = (dd os).getD s 0 := cur_lt hsl
        have HS := hide (ow_step (l := dd os) (k := s) hsl)
        rw [← hca] at HS
        have hcb : cur (dd os) fo s < n := HFD.out _ hcm
        have hoc := hto'.cell hcb
        have hom : decide (cur (dd os) fo s ∈ os) = true := decide_eq_true ((HMD.out _).2 hcm)
        rw [hom] at hoc
        have hvc := ht7.cell hcb
        rw [hcn'] at hvc
        have hgc := hG'.cell hcb
        rw [HN.out] at hgc
        have hfr := ht7.froz (cur (dd os) fo s)
        clear hcm hcn hcn' hca hom HN hKl hsl
        generalize cur (dd os) fo s = c at *
        have R1 : TabV (wr.setCell ⟨w5.heap.size, c, none⟩ (.bool true)) w5.heap.size 4 n (fun x => .bool (ow (dd os) (s + 1) x)) :=
          (ht7.set c (.bool true)).congr (fun x hx => by rw [HS.out]; unfold upd; by_cases e : x = c <;> simp [e])
        have R2 : Below w5.heap.size w5 (wr.setCell ⟨w5.heap.size, c, none⟩ (.bool true)) := hb.setCell (Nat.le_refl _) _
        generalize hcur : cur (dd os) fo (s + 1) = c2 at *
        have HCU := hide hcur
        clear hcur ht7 HS hto'
        have hq1 : decide ((c : Int) < 0) = false := decide_eq_false (by omega)
        have hq2 : decide ((n : Int) ≤ (c : Int)) = false := decide_eq_false (by omega)
        go_wp2
        go_roundw
        case rel => exact ⟨s + 1, by omega, by go_num, by rw [HCU.out], R1, R2⟩
        case measure => simp [intOf]; omega
      · obtain rfl : K = s := by omega
        have hce : cur (dd os) fo K = fo := by rw [hKl]; exact cur_end _ _
        have hbw : Below w.heap.size w wr := hb5.trans (hb.mono (by omega))
        have HSN : Hid (∀ x, decide (x ∈ os) = false → sc (dd os) fo x = fo) := hide (fun x hx => by
          unfold sc
          rw [nx_none _ _ (fun h => by have := (HMD.out x).2 h; simp [this] at hx)]
          rfl)
        simp only [hce]
        clear hce hKl hlt hs ht7 hb HMD HND HFD hG5 hto hc0
        obtain ⟨w8, hw8⟩ : ∃ x, x = wr := ⟨_, rfl⟩
        subst hw8
        go_wp2
        go_loopw [14] (fun i wx => ∃ k : Nat, k ≤ n ∧ i = .int .i64 k ∧ ∃ nd, wx = w8.drewN nd) (fun i _ => n - (intOf i).toNat)
        case atStart => exact ⟨0, Nat.zero_le _, rfl, 0, rfl⟩
        case round =>
        obtain ⟨k, hk, rfl, nd, rfl⟩ := hrel
        by_cases hlt : k < n
        · have hcg := hG'.cell hlt
          have hcw := hto'.cell hlt
          have hsn := HSN.out k
          have hki : (k : Int) < (n : Int) := by omega
          cases hb : decide (k ∈ os) with
          | true =>
            rw [hb] at hcw
            clear hsn hb
            go_wp2
            go_quiet (fail)
            go_wp2
            go_roundw
            case rel => exact ⟨k + 1, by omega, by go_num, _, rfl⟩
            case measure => simp [intOf]; omega
          | false =>
            rw [hb] at hcw
            rw [hsn hb] at hcg
            clear hsn hb
            go_wp2
            go_quiet (fail)
            go_wp2
            go_roundw
            case rel => exact ⟨k + 1, by omega, by go_num, _, rfl⟩
            case measure => simp [intOf]; omega
        · go_wp2
          go_ret
          exact ⟨rfl, below_drewN hbw _⟩

end Go.Proofs.Qxb6605173aMods
