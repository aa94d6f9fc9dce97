/-
  THE WALK of FnSplitByPathGroupsAreFilters (3), a list that is not empty.
-/
import Derived.Test.Qxb6605173aModsChk
import Derived.Deep.RegionWith
namespace Go.Proofs.Qxb6605173aMods
open Go.RowKit Go.Maps
set_option linter.unusedVariables false
set_option linter.unusedSimpArgs false

set_option maxRecDepth 100000 in
set_option maxHeartbeats 4000000 in
theorem main_pos (b off n cap : Nat) (R : Nat → RC) (w : World) (h0 : 0 < n) (hn : n ≤ cap) (hm : cap ≤ maxLen) (hR : SRow w b off n R) :
    Calls Trym.prog 3 #[.slice (some ⟨b, off, none⟩) n cap] w fun e w' => e = .returned (.bool true) ∧ Below w.heap.size w w' := by
  have G := zz6_any b off n cap R w hn hm hR
  unfold maxLen at hm
  by_cases hbig : n ≤ 4096
  · have hq1 : decide ((4096 : Int) < (n : Int)) = false := decide_eq_false (by omega)
    go_enter Trym.func3, Trym.ntmps3
    go_wp2_with fail
    refine G.mono ?_
    rintro e w' ⟨⟨x, rfl⟩, rfl⟩
    cases x
    · go_wp2
      go_ret
      exact ⟨rfl, Below.refl _ _⟩
    · go_wp2
      go_loopw [3, 4, 5] (fun z i _ wr => ∃ (k nd : Nat) (zz : Int), k ≤ n ∧ z = .int .i64 zz ∧ i = .int .i64 k ∧ wr = w.drewN nd ∧ Hid (∀ i, i < k → (R i).pl ≤ 1048576)) (fun _ i _ _ => n - (intOf i).toNat)
      case atStart => exact ⟨0, 0, _, Nat.zero_le _, rfl, rfl, rfl, fun i h => absurd h (by omega)⟩
      case round =>
        obtain ⟨k, nd, zz, hk, rfl, rfl, rfl, HPL⟩ := hrel
        by_cases hlt : k < n
        · have hc0 := hR.c0 k hlt
          have hc1 := hR.c1 k hlt
          have hP := hR.path k hlt
          have HP1 : Hid ((R k).pl ≤ 1048576 → ∀ i, i < k + 1 → (R i).pl ≤ 1048576) := hide (fun h i hi => by
            by_cases e : i = k
            · rw [e]; exact h
            · exact HPL.out i (by omega))
          clear HPL
          generalize R k = r at *
          have hki : (k : Int) < (n : Int) := by omega
          by_cases h1 : (1048576 : Int) < (r.ad.size : Int)
          · go_wp2
            go_ret
            exact ⟨rfl, below_drewN (Below.refl _ _) _⟩
          by_cases h2 : (1048576 : Int) < (r.pl : Int)
          · go_wp2
            go_ret
            exact ⟨rfl, below_drewN (Below.refl _ _) _⟩
          have HP2 := hide (HP1.out (by omega))
          clear HP1
          go_wp2
          go_region
          go_wp2
          · go_ret
            exact ⟨rfl, below_drewN (Below.refl _ _) _⟩
          · go_loopw [3, 5] (fun z i wr => ∃ (q nd : Nat) (zz : Int), q ≤ r.pl ∧ z = .int .i64 zz ∧ i = .int .i64 q ∧ wr = w.drewN nd) (fun _ i _ => r.pl - (intOf i).toNat)
            case atStart => exact ⟨0, _, _, Nat.zero_le _, rfl, rfl, rfl⟩
            case round =>
              obtain ⟨q, nd', yy, hq, rfl, rfl, rfl⟩ := hrel
              by_cases hlq : q < r.pl
              · obtain ⟨pb, po, hpa, hpb, hpc⟩ := hP.pos (by omega)
                rw [hpa] at hc1
                have hcs := hpc q hlq
                obtain ⟨sq, hsq⟩ : ∃ sq, sq = r.ps q := ⟨_, rfl⟩
                rw [← hsq] at hcs
                clear hsq hpa hpc
                go_wp2
                · go_ret
                  exact ⟨rfl, below_drewN (Below.refl _ _) _⟩
                · go_ret
                  exact ⟨rfl, below_drewN (Below.refl _ _) _⟩
                · go_roundw
                  case rel => exact ⟨q + 1, _, _, by omega, rfl, by go_num, rfl⟩
                  case measure => simp [intOf]; omega
              · go_wp2
                go_roundw
                case rel => exact ⟨k + 1, _, _, by omega, rfl, by go_num, rfl, HP2⟩
                case measure => simp [intOf]; omega
        · obtain rfl : n = k := by omega
          have hR1 := hR.drewN nd
          have CL := hide (clone_pos b off n cap R (w.drewN nd) hn hbig HPL.out hR1)
          have hbd : Below w.heap.size w (w.drewN nd) := below_drewN (Below.refl _ _) nd
          have hsz : (w.drewN nd).heap.size = w.heap.size := rfl
          rw [hsz] at CL
          have HPL' := HPL
          clear HPL hR1 G hlt hk hsz
          obtain ⟨i0, hi, hz0, hz1, hz2⟩ := info_parts Trym.info30
          obtain ⟨j0, hj, hy0, hy1, hy2⟩ := info_parts Trym.info9
          have HB1 : Hid (i0.bytes * n ≤ 281474976710656) := hide (by rw [hz2]; omega)
          have HM1 : Hid (n ≤ maxLen) := hide (by unfold maxLen; omega)
          have HSZ : Hid ((Trym.prog.info? 9).map (·.size) = some 1) := hide (by kernel_rfl)
          go_wp2_with (first | (go_at_call 7; refine CL.out.mono ?_; rintro e w3 ⟨rfl, ⟨R1, hS1, hSm1⟩, hB1⟩) | (refine wpList_make_full _ rfl (.tmp 99) (.tmp 99) 29 rfl _ 30 i0 _ 3 Trym.underlying29 hi hz0 hz1 .i64 .i64 _ _ n rfl rfl rfl rfl HB1.out HM1.out (Nat.le_refl _) ?_))
          intro w4 hown4 hgr4
          have hb3 : Below w.heap.size w w3 := hbd.trans hB1
          have hb4 : Below w3.heap.size w3 w4 := (Below.refl _ _).grown hgr4 (Nat.le_refl _) (by intro k h; cases h)
          obtain ⟨F4, ht4⟩ := tab_of_made3 hown4
          have HPL1 : Hid (∀ i, i < n → (R1 i).pl ≤ 1048576) := hide (fun i hi => by rw [(hSm1 i hi).pl]; exact HPL'.out i hi)
          have hA := hS1.lt
          clear hown4 hgr4 CL hB1 hbd HPL' hSm1 hR
          go_wp2
          go_loopw [7, 8] (fun i _ wx => ∃ (k : Nat) (F : Nat → Value) (R' : Nat → RC), k ≤ n ∧ i = .int .i64 k ∧ TabV wx w3.heap.size 30 (n * 3) F ∧ Rows3 wx w3.heap.size F R1 R' k ∧ Below w3.heap.size w3 wx) (fun i _ _ => n - (intOf i).toNat)
          case atStart => exact ⟨0, F4, R1, Nat.zero_le _, rfl, ht4, ⟨fun i h => absurd h (by omega), fun i h => absurd h (by omega), fun i h => absurd h (by omega), fun i h => absurd h (by omega), fun i h => absurd h (by omega), fun i h => absurd h (by omega)⟩, hb4⟩
          case round =>
          clear ht4 hb4
          obtain ⟨k, F, R', hk, rfl, ht, hrow, hb⟩ := hrel
          by_cases hlt : k < n
          · have hRr := hS1.keep hb
            have hc0 := hRr.c0 k hlt
            have hc1 := hRr.c1 k hlt
            have hc2 := hRr.c2 k hlt
            simp only [Nat.zero_add] at hc0 hc1 hc2
            have hP := hRr.path k hlt
            have hple := HPL1.out k hlt
            have hcF0 := ht.cell (i := k * 3) (by omega)
            have hcF1 := ht.cell (i := k * 3 + 1) (by omega)
            have hcF2 := ht.cell (i := k * 3 + 2) (by omega)
            have hfr0 := ht.froz (k * 3)
            have hfr1 := ht.froz (k * 3 + 1)
            have hfr2 := ht.froz (k * 3 + 2)
            clear hRr
            generalize F (k * 3) = v0 at *
            generalize F (k * 3 + 1) = v1 at *
            generalize F (k * 3 + 2) = v2 at *
            obtain ⟨r, hr⟩ : ∃ r, r = R1 k := ⟨_, rfl⟩
            rw [← hr] at hc0 hc1 hc2 hP hple
            have HRk : Hid (R1 k = r) := hr.symm
            clear hr
            obtain ⟨ad, pa, pl, pc, ps, wt⟩ := r
            dsimp only at hc0 hc1 hc2 hple
            have hnil := fun (w : World) (a : Option Addr) (l c : Nat) => run_neq_slice_nil_any (P := Trym.prog) w 24 9 a l c 0 0 Trym.underlying24
            have hsR : SameR (R1 k) ⟨ad, pa, pl, pc, ps, wt⟩ := by rw [HRk.out]; exact ⟨rfl, rfl, rfl, fun _ _ => rfl⟩
            have hltB := ht.lt
            cases pa with
            | none =>
              obtain ⟨rfl, rfl⟩ := hP.nil rfl
              have hS := row_step ht hrow hb ⟨ad, none, 0, 0, ps, wt⟩ hP (by intro a h; cases h) hsR
              clear ht hrow hP hsR
              go_wp2
              go_region
              go_wp2
              go_roundw
              case rel =>
                obtain ⟨F2, R2, g1, g2, g3⟩ := hS
                exact ⟨k + 1, F2, R2, by omega, by go_num, g1, g2, g3⟩
              case measure => simp [intOf]; omega
            | some x =>
              have HB2 : Hid (j0.bytes * pl ≤ 281474976710656) := hide (by rw [hy2]; omega)
              have HM2 : Hid (pl ≤ maxLen) := hide (by unfold maxLen; omega)
              go_wp2_with (refine wpList_make_full _ rfl (.tmp 118) (.tmp 118) 24 rfl wr.heap.size 9 j0 (.string ⟨#[]⟩) 1 Trym.underlying24 hj hy0 hy1 .i64 .i64 _ _ pl rfl rfl rfl rfl HB2.out HM2.out (Nat.le_refl _) ?_)
              intro w2 hown2 hgr2
              have hb2 : Below wr.heap.size wr w2 := (Below.refl _ _).grown hgr2 (Nat.le_refl _) (by intro k h; cases h)
              have ht2 : TabV w2 wr.heap.size 9 pl (fun _ => .string ⟨#[]⟩) := tab_of_made hown2
              have HX1 := hide (path_src (G := wr.heap.size) rfl hP hb2)
              have HX2 : Hid (((List.range pl).map (fun j => Value.string (ps j))).length = Nat.min pl pl) := hide (by rw [show Nat.min pl pl = pl from Nat.min_self pl]; simp)
              have HX3 : Hid (0 + ((List.range pl).map (fun j => Value.string (ps j))).length ≤ ((List.range pl).map (fun _ => Value.string ⟨#[]⟩)).length) := hide (by simp)
              have HX4 : Hid (∀ v ∈ (List.range pl).map (fun j => Value.string (ps j)), v.oneCell' = true) := hide (by intro v hv; obtain ⟨_, _, rfl⟩ := List.mem_map.1 hv; rfl)
              have HX5 := hide (fun (w8 : World) => path_copied (w := w) (wr := wr) (w3 := w8) (G := wr.heap.size) (ps := ps) (ad := ad) (wt := wt) hple hP.size)
              have hc1b := (hb2.cell (p := ⟨w.heap.size, k * 3 + 1, none⟩) (World.block_lt_of_cell? wr _ hc1)).trans hc1
              clear hown2 hgr2 hP
              dsimp only at HX1
              generalize (List.range pl).map (fun j => Value.string (ps j)) = CS at *
              go_wp2_with (refine wpList_copy_splice rfl (.tmp 120) (.tmp 125) 24 24 rfl 9 Trym.underlying24 HSZ.out _ _ _ _ _ _ rfl rfl wr.heap.size 0 _ 9 ht2 CS HX2.out HX1.out HX3.out HX4.out wr.heap.size wr hb2 (Nat.le_refl _) ?_)
              intro w8 hg8 hb8
              have hP8 := HX5.out w8 hg8.out
              have hS := row_step (ht.keep hb8 hltB) (hrow.keep hb8) (hb.trans (hb8.mono (by omega))) ⟨ad, some ⟨wr.heap.size, 0, none⟩, pl, pl, ps, wt⟩ hP8 (by intro a h; cases h; show wr.heap.size ≠ w3.heap.size; omega) ⟨hsR.ad, hsR.wt, hsR.pl, hsR.ps⟩
              have k0 := (hb8.cell (p := ⟨w.heap.size, k * 3, none⟩) (World.block_lt_of_cell? wr _ hc0)).trans hc0
              have k1 := (hb8.cell (p := ⟨w.heap.size, k * 3 + 1, none⟩) (World.block_lt_of_cell? wr _ hc1)).trans hc1
              have k2 := (hb8.cell (p := ⟨w.heap.size, k * 3 + 2, none⟩) (World.block_lt_of_cell? wr _ hc2)).trans hc2
              have k3 := (hb8.cell (p := ⟨w3.heap.size, k * 3, none⟩) hltB).trans hcF0
              have k4 := (hb8.cell (p := ⟨w3.heap.size, k * 3 + 1, none⟩) hltB).trans hcF1
              have k5 := (hb8.cell (p := ⟨w3.heap.size, k * 3 + 2, none⟩) hltB).trans hcF2
              have k6 := (hb8.frozen (p := ⟨w3.heap.size, k * 3, none⟩) hltB).trans hfr0
              have k7 := (hb8.frozen (p := ⟨w3.heap.size, k * 3 + 1, none⟩) hltB).trans hfr1
              have k8 := (hb8.frozen (p := ⟨w3.heap.size, k * 3 + 2, none⟩) hltB).trans hfr2
              clear ht hrow hsR HX1 HX2 HX3 HX4 HX5 hg8 hP8 ht2 hb2 hc0 hc1 hc2 hcF0 hcF1 hcF2 hfr0 hfr1 hfr2 hc1b
              go_wp2
              go_region
              go_wp2
              go_roundw
              case rel =>
                obtain ⟨F2, R2, g1, g2, g3⟩ := hS
                exact ⟨k + 1, F2, R2, by omega, by go_num, g1, g2, g3⟩
              case measure => simp [intOf]; omega
          · obtain rfl : n = k := by omega
            have hS2 := srow_of ht hrow
            have hSm2 := hrow.same
            obtain ⟨w5, hw5⟩ : ∃ x, x = wr := ⟨_, rfl⟩
            subst hw5
            have HPL2 : Hid (∀ i, i < n → (R' i).pl ≤ 1048576) := hide (fun i hi => by rw [(hSm2 i hi).pl]; exact HPL1.out i hi)
            have SP := hide (zzSplit_any w3.heap.size n R' w5 hbig HPL2.out hS2)
            have hS5 := hS1.keep hb
            have hb5 : Below w.heap.size w w5 := hb3.trans (hb.mono (by omega))
            have hmn := fun (w : World) (r : Option Nat) => run_eql_map_nil (P := Trym.prog) w 31 9 29 r Trym.underlying31
            clear ht hrow hS1 hb hb3 hlt hk
            go_wp2_with (go_at_call 8; refine SP.out.mono ?_; rintro e w6 ⟨rfl, ⟨D, hI⟩, hB6⟩)
            have hS6 := hS5.keep hB6
            have hT6 := hS2.keep hB6
            have hb6 : Below w.heap.size w w6 := hb5.trans (hB6.mono (by have := hS5.lt; omega))
            have hA6 : w.heap.size < w6.heap.size := hS6.lt
            clear hS5 hS2 hB6 hb5 SP hmn HPL2
            go_loopw [10, 11] (fun c i wx => ∃ k : Nat, k ≤ n ∧ i = .int .i64 k ∧ c = .int .i64 (cnt R' k : Nat) ∧ Below w6.heap.size w6 wx) (fun _ i _ => n - (intOf i).toNat)
            case atStart => exact ⟨0, Nat.zero_le _, rfl, rfl, Below.refl _ _⟩
            case round =>
            obtain ⟨k, hk, rfl, rfl, hb⟩ := hrel
            have hRr := hS6.keep hb
            have hIr := hI.keep hb
            have hcl := cnt_le R' k
            by_cases hlt : k < n
            · have hc1 := hRr.c1 k hlt
              simp only [Nat.zero_add] at hc1
              have hP := hRr.path k hlt
              have hple := HPL1.out k hlt
              have hsm := hSm2 k hlt
              have SE := fun s => seen_any w.heap.size 0 n n k s R1 wr hbig hk hRr
              have HCS := hide (cnt_same (R := R') (k := k))
              have HCU := hide (cnt_up (R := R') (k := k))
              rw [hsm.pl] at HCS HCU
              by_cases hp0 : (R1 k).pl = 0
              · have e1 := hide (HCS.out (.inl hp0))
                have hq : (((R1 k).pl : Int) == 0) = true := by simp; omega
                generalize R1 k = r at *
                clear HCS HCU SE hIr hp0
                generalize cnt R' k = c at *
                go_wp2
                go_roundw
                case rel => exact ⟨k + 1, by omega, by go_num, by rw [e1.out], hb⟩
                case measure => simp [intOf]; omega
              · have hq : (((R1 k).pl : Int) == 0) = false := by simp; omega
                rw [hsm.ps 0 (by omega)] at HCS HCU
                obtain ⟨pb, po, hpa, hpb, hpc⟩ := hP.pos (by omega)
                have hcs := hpc 0 (by omega)
                rw [Nat.add_zero] at hcs
                rw [hpa] at hc1
                have hpi : (0 : Int) < ((R1 k).pl : Int) := by omega
                have hkey := WideMaps.keyOf_string_mk (P := Trym.prog) Trym.underlying9 (hP.size 0 (by omega))
                have SE0 := SE ((R1 k).ps 0)
                have hnk : nmB R1 ((R1 k).ps 0).data.toList k = true := by rw [nmB_name (by omega)]; simp
                have hse := seen_same hSm2 k hk ((R1 k).ps 0).data.toList
                rw [hse] at SE0
                clear SE hpc hse
                cases hsn : seenB R' k ((R1 k).ps 0).data.toList with
                | true =>
                  have e1 := hide (HCS.out (.inr hsn))
                  rw [hsn] at SE0
                  clear HCS HCU hIr hsn hnk hkey hpa hP
                  generalize R1 k = r at *
                  generalize cnt R' k = c at *
                  go_wp2_with (go_at_call 9; refine SE0.mono ?_; rintro e w9 ⟨rfl, rfl⟩)
                  go_roundw
                  case rel => exact ⟨k + 1, by omega, by go_num, by rw [e1.out], hb⟩
                  case measure => simp [intOf]; omega
                | false =>
                  have e1 := hide (HCU.out (by omega) hsn)
                  rw [hsn] at SE0
                  have hi0 : idx R' k ((R1 k).ps 0).data.toList = [] := by unfold seenB at hsn; simpa using hsn
                  have hnk' : nmB R' ((R1 k).ps 0).data.toList k = true := by rw [nmB_same hsm]; exact hnk
                  obtain ⟨V, hV, hO6⟩ := hI.grp ((R1 k).ps 0).data.toList
                  have hpos : 0 < (idx R' n ((R1 k).ps 0).data.toList).length := by have := idx_at_lt hlt hnk'; omega
                  have hhas : Maps.has D (.string ((R1 k).ps 0).data.toList) = true := by rw [hI.has]; exact decide_eq_true (idx_ne_of hlt hnk')
                  obtain ⟨g, gc, rfl⟩ := grp_slice hO6 hpos
                  have hil := idx_le R' n ((R1 k).ps 0).data.toList
                  have hOwn := hIr.own
                  obtain ⟨sk, hsk⟩ : ∃ sk, sk = (R1 k).ps 0 := ⟨_, rfl⟩
                  rw [← hsk] at hcs hkey SE0 hi0 hV hO6 hpos hhas hil
                  have HI0 := hide hi0
                  clear HCS HCU hIr hsn hnk hnk' hpa hP hsm hsk hi0
                  generalize hrk : R1 k = rk at *
                  clear hrk
                  generalize cnt R' k = c at *
                  go_wp2_with (first | (go_at_call 9; refine SE0.mono ?_; rintro e w9 ⟨rfl, rfl⟩) | (at_lookup; refine wpList_lookup_held_ok _ rfl (.tmp 173) (.tmp 174) 31 rfl 9 29 keyLaw Trym.underlying31 nilS (zero29 _) w5.heap.size n D rfl hOwn _ _ rfl hkey _ hV hhas ?_))
                  go_loopw [15, 16] (fun c i wx => ∃ j : Nat, k ≤ j ∧ j ≤ n ∧ i = .int .i64 j ∧ c = .int .i64 ((idx R' j sk.data.toList).length : Nat) ∧ Below w6.heap.size w6 wx) (fun _ i _ => n - (intOf i).toNat)
                  case atStart => exact ⟨k, Nat.le_refl _, hk, rfl, by rw [HI0.out]; rfl, hb⟩
                  case round =>
                  clear hcs hc1 hRr SE0 hOwn hb
                  obtain ⟨j, hkj, hjn, rfl, rfl, hb⟩ := hrel
                  by_cases hlj : j < n
                  · have hRj := hS6.keep hb
                    have hTj := hT6.keep hb
                    have hOj := ownsRow_below hO6 hb
                    have hc0 := hRj.c0 j hlj
                    have hc1 := hRj.c1 j hlj
                    have hc2 := hRj.c2 j hlj
                    simp only [Nat.zero_add] at hc0 hc1 hc2
                    have hP := hRj.path j hlj
                    have hP' := hTj.path j hlj
                    have hsm := hSm2 j hlj
                    have hplj := HPL1.out j hlj
                    have hidx := idx_succ R' j sk.data.toList
                    have hil2 := idx_le R' j sk.data.toList
                    by_cases hp0 : (R1 j).pl = 0
                    · have hnf : nmB R' sk.data.toList j = false := by rw [nmB_same hsm]; simp [nmB, hp0]
                      rw [hnf] at hidx
                      have HX : Hid ((idx R' (j + 1) sk.data.toList).length = (idx R' j sk.data.toList).length) := hide (by rw [hidx]; simp)
                      have hq : (((R1 j).pl : Int) == 0) = true := by simp; omega
                      clear hidx hnf hsm hP hP' hRj hTj hOj hplj
                      generalize (idx R' j sk.data.toList).length = kk at *
                      generalize R1 j = rj at *
                      go_wp2
                      go_roundw
                      case rel => exact ⟨j + 1, by omega, by omega, by go_num, by rw [HX.out], hb⟩
                      case measure => simp [intOf]; omega
                    · have hq : (((R1 j).pl : Int) == 0) = false := by simp; omega
                      obtain ⟨pb2, po2, hpa2, hpb2, hpc2⟩ := hP.pos (by omega)
                      have hcs := hpc2 0 (by omega)
                      rw [Nat.add_zero] at hcs
                      have hpi2 : (0 : Int) < ((R1 j).pl : Int) := by omega
                      have hnn := nmB_name (R := R1) (k := j) (by omega) sk.data.toList
                      rw [← nmB_same hsm] at hnn
                      by_cases hnm : ((R1 j).ps 0).data.toList = sk.data.toList
                      · rw [decide_eq_true hnm] at hnn
                        rw [hnn] at hidx
                        have HX : Hid ((idx R' (j + 1) sk.data.toList).length = (idx R' j sk.data.toList).length + 1) := hide (by rw [hidx]; simp)
                        have hlt2 := idx_at_lt hlj hnn
                        obtain ⟨k0, k1, k2⟩ := grp_cells hOj hlj hnn
                        have hqn : (((R1 j).ps 0).toList == sk.toList) = true := by rw [ByteArray.toList_eq, ByteArray.toList_eq, hnm]; simp
                        have SM := hide (same_any (R1 j) (R' j) wr.drew (by omega) hplj hsm hP.drew hP'.drew)
                        have HBL : Hid (∀ w9, Below wr.drew.heap.size wr.drew w9 → Below w6.heap.size w6 w9) := hide (fun w9 h => hb.drew.trans (h.mono hb.size))
                        rw [hpa2] at hc1 SM
                        clear hidx hnn hsm hP hP' hRj hTj hOj hplj hpc2 hpa2 hnm
                        generalize (R1 j).ps 0 = tj at *
                        generalize hgr : R' j = rg at *
                        clear hgr
                        generalize hrj : R1 j = rj at *
                        clear hrj
                        generalize (idx R' j sk.data.toList).length = kk at *
                        generalize (idx R' n sk.data.toList).length = ln at *
                        have hki2 : (kk : Int) < (ln : Int) := by omega
                        have hji2 : (j : Int) < (n : Int) := by omega
                        go_wp2
                        go_region_with (go_at_call 10; refine SM.out.mono ?_; rintro e w9 ⟨rfl, hB9⟩)
                        all_goals go_wp2
                        all_goals
                          go_roundw
                          case rel => exact ⟨j + 1, by omega, by omega, by go_num, by rw [HX.out]; go_num, HBL.out _ hB9⟩
                          case measure => simp [intOf]; omega
                      · rw [decide_eq_false hnm] at hnn
                        rw [hnn] at hidx
                        have HX : Hid ((idx R' (j + 1) sk.data.toList).length = (idx R' j sk.data.toList).length) := hide (by rw [hidx]; simp)
                        have hqn : (((R1 j).ps 0).toList == sk.toList) = false := by rw [ByteArray.toList_eq, ByteArray.toList_eq]; simpa using hnm
                        rw [hpa2] at hc1
                        clear hidx hnn hsm hP hP' hRj hTj hOj hplj hpc2 hpa2 hnm
                        generalize (R1 j).ps 0 = tj at *
                        generalize (idx R' j sk.data.toList).length = kk at *
                        generalize R1 j = rj at *
                        go_wp2
                        go_roundw
                        case rel => exact ⟨j + 1, by omega, by omega, by go_num, by rw [HX.out], hb⟩
                        case measure => simp [intOf]; omega
                  · obtain rfl : n = j := by omega
                    generalize (idx R' n sk.data.toList).length = ln at *
                    go_wp2
                    go_roundw
                    case rel => exact ⟨k + 1, by omega, by go_num, by rw [e1.out]; go_num, hb⟩
                    case measure => simp [intOf]; omega
            · obtain rfl : n = k := by omega
              have hsz := hIr.size
              have hbw : Below w.heap.size w wr := hb6.trans (hb.mono (by omega))
              have hOwn := hIr.own
              clear hIr hRr
              generalize cnt R' n = c at *
              go_wp2_with (refine wpList_len_own _ rfl (.tmp 225) 31 rfl 9 29 Trym.underlying31 RV w5.heap.size n D rfl hOwn ?_; rw [hsz])
              go_ret
              exact ⟨ret_bool (by simp), hbw⟩
  · go_enter Trym.func3, Trym.ntmps3
    go_wp2_with (go_at_call 6; refine G.mono ?_; rintro e w' ⟨⟨x, rfl⟩, rfl⟩)
    · go_ret
      exact ⟨rfl, Below.refl _ _⟩
    · go_ret
      exact ⟨rfl, Below.refl _ _⟩

end Go.Proofs.Qxb6605173aMods
