/-
  THE WALKS of ringOrder (15), ZZringOrder (12).
-/
import Derived.Test.Qxb6605173aModsTab
import Derived.Test.Qxb6605173aModsPlainRing
namespace Go.Proofs.Qxb6605173aMods
open Go.RowKit
set_option linter.unusedVariables false
set_option linter.unusedSimpArgs false

/-- The table of the owners. -/
def OwnT (w : World) (g : Nat) (os : List Nat) : Prop := TabV w g 3 os.length (fun i => .int .i64 ((os.getD i 0 : Nat) : Int))

set_option maxHeartbeats 1000000 in
theorem ring_any (go m n : Nat) (os : List Nat) (w : World) (hm : os.length = m) (h0 : 0 < m) (hm2 : m ≤ 131072) (hn2 : n ≤ 65536) (hos : ∀ o ∈ os, o < n) (hO : OwnT w go os) :
    Calls Trym.prog 15 #[.slice (some ⟨go, 0, none⟩) m m, .int .i64 n] w fun e w' =>
      e = .returned (.slice (some ⟨w.heap.size, 0, none⟩) n n) ∧ TabV w' w.heap.size 3 n (fun x => .int .i64 ((sc (dd os) (os.getD 0 0) x : Nat) : Int)) ∧ Below w.heap.size w w' := by
  obtain ⟨i0, hi, hz0, hz1, hz2⟩ := info_parts Trym.info3
  have hgo := hO.lt
  have HM := hide hm
  have hml : m ≤ os.length := by omega
  clear hm
  go_enter Trym.func15, Trym.ntmps15
  go_wp2_with (refine wpList_make_full _ rfl (.tmp 13) (.tmp 13) 36 rfl w.heap.size 3 i0 (.int .i64 0) 1 Trym.underlying36 hi hz0 hz1 .i64 .i64 _ _ n rfl rfl rfl rfl ?_ ?_ ?_ ?_)
  · rw [hz2]; omega
  · unfold maxLen; omega
  · exact Nat.le_refl _
  intro w1 hown hgr
  have hb1 : Below w.heap.size w w1 := (Below.refl _ _).grown hgr (Nat.le_refl _) (by intro k h; cases h)
  have ht1 : TabV w1 w.heap.size 3 n (fun _ => .int .i64 0) := tab_of_made hown
  clear hown hgr
  go_wp2
  go_loopw [17] (fun i wr => ∃ k : Nat, k ≤ n ∧ i = .int .i64 k ∧ TabV wr w.heap.size 3 n (fun x => .int .i64 (if x < k then -1 else 0)) ∧ Below w.heap.size w wr) (fun i _ => n - (intOf i).toNat)
  case atStart => exact ⟨0, Nat.zero_le _, rfl, ht1, hb1⟩
  case round =>
    obtain ⟨k, hk, rfl, ht, hb⟩ := hrel
    clear ht1 hb1
    by_cases hlt : k < n
    · have hcy := ht.cell hlt
      have hfr := ht.froz k
      have R1 : TabV (wr.setCell ⟨w.heap.size, k, none⟩ (.int .i64 (-1))) w.heap.size 3 n (fun x => .int .i64 (if x < k + 1 then -1 else 0)) :=
        (ht.set k (.int .i64 (-1))).congr (fun x hx => by unfold upd; by_cases e : x = k <;> simp [e]; by_cases e2 : x < k <;> simp [e2] <;> omega)
      have R2 : Below w.heap.size w (wr.setCell ⟨w.heap.size, k, none⟩ (.int .i64 (-1))) := hb.setCell (Nat.le_refl _) _
      clear ht
      obtain ⟨v, hv⟩ : ∃ v, v = (Value.int .i64 (if k < k then -1 else 0)) := ⟨_, rfl⟩
      rw [← hv] at hcy
      clear hv
      go_wp2
      go_roundw
      case rel => exact ⟨k + 1, by omega, by go_num, R1, R2⟩
      case measure => simp [intOf]; omega
    · obtain rfl : n = k := by omega
      have ht2 : TabV wr w.heap.size 3 n (fun x => .int .i64 (lnk ([] ++ [os.getD 0 0]) x)) := ht.congr (fun x hx => by rw [lnk_not (by simp)]; simp [hx])
      clear ht hlt
      have hc0 : wr.cell? ⟨go, 0, none⟩ = some (.int .i64 ((os.getD 0 0 : Nat) : Int)) := (hO.keep hb hgo).cell (by omega)
      have HD := hide (dd_one os (by omega))
      have HF : Hid (os.getD 0 0 < n) := hide (hos _ (by rw [List.getD_eq_getElem?_getD, List.getElem?_eq_getElem (by omega)]; simp))
      obtain ⟨fo, hfo⟩ : ∃ fo, fo = os.getD 0 0 := ⟨_, rfl⟩
      simp only [← hfo] at ht2 hc0 HD HF
      have hfn := HF.out
      have HFo := hide hfo
      clear hfo HF
      have hm0 : (0 : Int) < (m : Int) := by omega
      go_wp2
      go_region
      go_wp2
      go_loopw [8, 10, 32] (fun la _ i ws => ∃ (k l : Nat) (pre : List Nat), k ≤ m ∧ l < n ∧ la = .int .i64 l ∧ i = .int .i64 k ∧ Hid (dk os k = pre ++ [l]) ∧ TabV ws w.heap.size 3 n (fun x => .int .i64 (lnk (pre ++ [l]) x)) ∧ Below w.heap.size w ws) (fun _ _ i _ => m - (intOf i).toNat)
      case atStart => exact ⟨0, fo, [], Nat.zero_le _, hfn, rfl, rfl, HD, ht2, hb.drew⟩
      case round =>
        clear hc0 ht2 HD hb
        obtain ⟨k, l, pre, hk, hln, rfl, rfl, HK, ht, hb⟩ := hrel
        have hnd := last_not (by rw [← HK.out]; exact dk_nodup os k)
        by_cases hlt : k < m
        · have hco : wr.cell? ⟨go, k, none⟩ = some (.int .i64 ((os.getD k 0 : Nat) : Int)) := (hO.keep hb hgo).cell (by omega)
          have hon : os.getD k 0 < n := hos _ (by rw [List.getD_eq_getElem?_getD, List.getElem?_eq_getElem (by omega)]; simp)
          have HN := hide (dk_new (os := os) (k := k) (by omega))
          have HP := hide (dk_keep (os := os) (k := k) (by omega))
          rw [HK.out] at HN HP
          generalize os.getD k 0 = o at *
          by_cases hol : o = l
          · have HP' := hide (HP.out (by rw [hol]; simp))
            subst hol
            clear HN HP
            go_wp2
            go_roundw
            case rel => exact ⟨k + 1, o, pre, by omega, hln, rfl, by go_num, HP', ht, hb⟩
            case measure => simp [intOf]; omega
          · have hoi : ((o : Int) == (l : Int)) = false := by simp; omega
            have hca := ht.cell hon
            by_cases hop : o ∈ pre
            · have HP' := hide (HP.out (by simp [hop]))
              have hge := lnk_mem (l := l) hop
              generalize lnk (pre ++ [l]) o = v at *
              clear HN HP hop hol
              go_wp2
              go_roundw
              case rel => exact ⟨k + 1, l, pre, by omega, hln, rfl, by go_num, HP', ht, hb⟩
              case measure => simp [intOf]; omega
            · rw [lnk_not hop] at hca
              have HN' := hide (HN.out (by simp [hop, hol]))
              have hcl := ht.cell hln
              rw [lnk_not hnd] at hcl
              have hfl := ht.froz l
              have R1 : TabV (wr.setCell ⟨w.heap.size, l, none⟩ (.int .i64 (o : Int))) w.heap.size 3 n (fun x => .int .i64 (lnk (pre ++ [l] ++ [o]) x)) :=
                (ht.set l (.int .i64 (o : Int))).congr (fun x hx => by rw [lnk_snoc hnd]; unfold upd; by_cases e : x = l <;> simp [e])
              have R2 : Below w.heap.size w (wr.setCell ⟨w.heap.size, l, none⟩ (.int .i64 (o : Int))) := hb.setCell (Nat.le_refl _) _
              clear HN HP hop hol ht hnd
              go_wp2
              go_roundw
              case rel => exact ⟨k + 1, o, pre ++ [l], by omega, hon, rfl, by go_num, HN', R1, R2⟩
              case measure => simp [intOf]; omega
        · have HE : Hid (dd os = pre ++ [l]) := hide (by rw [← HK.out, ← dk_end os (by omega)]; congr 1; have := HM.out; omega)
          have hcl := ht.cell hln
          rw [lnk_not hnd] at hcl
          have hfl := ht.froz l
          have R1 : TabV (wr.setCell ⟨w.heap.size, l, none⟩ (.int .i64 (fo : Int))) w.heap.size 3 n (fun x => .int .i64 (if x < 0 then ((sc (pre ++ [l]) fo x : Nat) : Int) else if x = l then (fo : Int) else lnk (pre ++ [l]) x)) :=
            (ht.set l (.int .i64 (fo : Int))).congr (fun x hx => by unfold upd; by_cases e : x = l <;> simp [e])
          have R2 : Below w.heap.size w (wr.setCell ⟨w.heap.size, l, none⟩ (.int .i64 (fo : Int))) := hb.setCell (Nat.le_refl _) _
          have HL : Hid (lnk (pre ++ [l]) l = -1) := hide (lnk_not hnd)
          clear ht hnd HK
          go_wp2
          go_loopw [11, 12, 58] (fun _ _ i wx => ∃ k : Nat, k ≤ n ∧ i = .int .i64 k ∧ TabV wx w.heap.size 3 n (fun x => .int .i64 (if x < k then ((sc (pre ++ [l]) fo x : Nat) : Int) else if x = l then (fo : Int) else lnk (pre ++ [l]) x)) ∧ Below w.heap.size w wx) (fun _ _ i _ => n - (intOf i).toNat)
          case atStart => exact ⟨0, Nat.zero_le _, rfl, R1, R2⟩
          case round =>
            clear R1 R2 hcl hfl hb hlt hk
            obtain ⟨q, hq, rfl, ht, hb⟩ := hrel
            by_cases hlt : q < n
            · have hcy := ht.cell hlt
              have hfr := ht.froz q
              rw [if_neg (by omega)] at hcy
              have hsc := sc_lnk (pre ++ [l]) fo q
              have HX : Hid ((sc (pre ++ [l]) fo q : Nat) = if (if q = l then (fo : Int) else lnk (pre ++ [l]) q) < 0 then (fo : Int) else (if q = l then (fo : Int) else lnk (pre ++ [l]) q)) := by
                by_cases e : q = l
                · subst e; rw [hsc, HL.out]; simp [Hid]
                · rw [hsc]; simp [e, Hid]
              clear hsc
              have R1 : TabV (wr.setCell ⟨w.heap.size, q, none⟩ (.int .i64 (fo : Int))) w.heap.size 3 n (upd (fun x => .int .i64 (if x < q then ((sc (pre ++ [l]) fo x : Nat) : Int) else if x = l then (fo : Int) else lnk (pre ++ [l]) x)) q (.int .i64 (fo : Int))) := ht.set q _
              have R2 : Below w.heap.size w (wr.setCell ⟨w.heap.size, q, none⟩ (.int .i64 (fo : Int))) := hb.setCell (Nat.le_refl _) _
              obtain ⟨v, hv⟩ : ∃ v, v = (if q = l then (fo : Int) else lnk (pre ++ [l]) q) := ⟨_, rfl⟩
              rw [← hv] at hcy HX
              have HV := hide hv
              clear hv
              by_cases hv0 : v < 0
              · have R1' : TabV (wr.setCell ⟨w.heap.size, q, none⟩ (.int .i64 (fo : Int))) w.heap.size 3 n (fun x => .int .i64 (if x < q + 1 then ((sc (pre ++ [l]) fo x : Nat) : Int) else if x = l then (fo : Int) else lnk (pre ++ [l]) x)) :=
                  R1.congr (fun x hx => by
                    unfold upd
                    by_cases e : x = q
                    · subst e; rw [if_pos rfl, if_pos (show x < x + 1 by omega), HX.out, if_pos hv0]
                    · rw [if_neg e]
                      dsimp only
                      by_cases e2 : x < q
                      · rw [if_pos e2, if_pos (show x < q + 1 by omega)]
                      · rw [if_neg e2, if_neg (show ¬ x < q + 1 by omega)])
                clear R1 ht HX HV
                go_wp2
                go_roundw
                case rel => exact ⟨q + 1, by omega, by go_num, R1', R2⟩
                case measure => simp [intOf]; omega
              · have R1' : TabV wr w.heap.size 3 n (fun x => .int .i64 (if x < q + 1 then ((sc (pre ++ [l]) fo x : Nat) : Int) else if x = l then (fo : Int) else lnk (pre ++ [l]) x)) :=
                  ht.congr (fun x hx => by
                    by_cases e : x = q
                    · subst e; rw [if_neg (show ¬ x < x by omega), if_pos (show x < x + 1 by omega), HX.out, if_neg hv0, HV.out]
                    · by_cases e2 : x < q
                      · rw [if_pos e2, if_pos (show x < q + 1 by omega)]
                      · rw [if_neg e2, if_neg (show ¬ x < q + 1 by omega)])
                clear R1 R2 ht HX HV
                go_wp2
                go_roundw
                case rel => exact ⟨q + 1, by omega, by go_num, R1', hb⟩
                case measure => simp [intOf]; omega
            · have hT : TabV wr w.heap.size 3 n (fun x => .int .i64 ((sc (dd os) (os.getD 0 0) x : Nat) : Int)) := ht.congr (fun x hx => by rw [if_pos (by omega), HE.out, ← HFo.out])
              clear ht
              go_wp2
              go_ret
              exact ⟨rfl, hT, hb⟩

theorem zzRing_any (go m n : Nat) (os : List Nat) (w : World) (hm : os.length = m) (h0 : 0 < m) (hm2 : m ≤ 131072) (hn2 : n ≤ 65536) (hos : ∀ o ∈ os, o < n) (hO : OwnT w go os) :
    Calls Trym.prog 12 #[.slice (some ⟨go, 0, none⟩) m m, .int .i64 n] w fun e w' =>
      e = .returned (.slice (some ⟨w.heap.size, 0, none⟩) n n) ∧ TabV w' w.heap.size 3 n (fun x => .int .i64 ((sc (dd os) (os.getD 0 0) x : Nat) : Int)) ∧ Below w.heap.size w w' := by
  have H := ring_any go m n os w hm h0 hm2 hn2 hos hO
  clear hm
  go_enter Trym.func12, Trym.ntmps12
  go_wp2_with (go_at_call 15; refine H.mono ?_; rintro e w' ⟨rfl, hT, hB⟩)
  go_ret
  exact ⟨rfl, hT, hB⟩

end Go.Proofs.Qxb6605173aMods
