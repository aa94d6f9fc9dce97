/-
  SHARED WALKS OF SEAT b6603780aM: the four length guards (7, 10, 13, 15), 'copyBytes' (11), 'literalWord' (23), 'isDigit' (27).
-/
import Derived.Test.Qxb6603780aModsRows
import Derived.WalkKit
import Derived.WalkSpells
import Derived.WalkLawsBesides
import Derived.WideShapes
import Derived.Deep.Draws
import Derived.Test.Qxb6603780aModsPlainDec
namespace Go.Proofs.Qxb6603780aMods
open Go.RowKit
set_option linter.unusedVariables false
set_option linter.unusedSimpArgs false

theorem Trym.info5 : (Trym.prog.info? 5).map (fun i => (i.zero, i.size, i.bytes)) = some (some (.int .u8 0), 1, 1) := by kernel_rfl

/-- The guard of the literal law: at most 1048576 bytes. -/
theorem zz15_any (a : Option Addr) (len cap : Nat) (at_ : Int) (w : World) (hm : len ≤ maxLen) :
    Calls Trym.prog 15 #[.slice a len cap, .int .i64 at_] w fun e w' => e = .returned (.bool (decide (len ≤ 1048576))) ∧ w' = w := by
  unfold maxLen at hm
  by_cases h : len ≤ 1048576
  · go_enter Trym.func15, Trym.ntmps15
    go_wp2
    go_ret
    exact ⟨by simp [h], rfl⟩
  · go_enter Trym.func15, Trym.ntmps15
    go_wp2
    go_ret
    exact ⟨by simp [h], rfl⟩

/-- The guard of the decimal law: at most 1048576 bytes. -/
theorem zz7_any (s : ByteArray) (w : World) (hm : s.size ≤ maxLen) :
    Calls Trym.prog 7 #[.string s] w fun e w' => e = .returned (.bool (decide (s.size ≤ 1048576))) ∧ w' = w := by
  unfold maxLen at hm
  by_cases h : s.size ≤ 1048576
  · go_enter Trym.func7, Trym.ntmps7
    go_wp2
    go_ret
    exact ⟨by simp [h], rfl⟩
  · go_enter Trym.func7, Trym.ntmps7
    go_wp2
    go_ret
    exact ⟨by simp [h], rfl⟩

/-- The guard of the JSON law: at most 1048576 bytes. -/
theorem zz10_any (a : Option Addr) (len cap : Nat) (w : World) (hm : len ≤ maxLen) :
    Calls Trym.prog 10 #[.slice a len cap] w fun e w' => e = .returned (.bool (decide (len ≤ 1048576))) ∧ w' = w := by
  unfold maxLen at hm
  by_cases h : len ≤ 1048576
  · go_enter Trym.func10, Trym.ntmps10
    go_wp2
    go_ret
    exact ⟨by simp [h], rfl⟩
  · go_enter Trym.func10, Trym.ntmps10
    go_wp2
    go_ret
    exact ⟨by simp [h], rfl⟩

/-- The guard of the number law: at most 1048576 bytes. -/
theorem zz13_any (a : Option Addr) (len cap : Nat) (at_ : Int) (f : Bool) (w : World) (hm : len ≤ maxLen) :
    Calls Trym.prog 13 #[.slice a len cap, .int .i64 at_, .bool f] w fun e w' => e = .returned (.bool (decide (len ≤ 1048576))) ∧ w' = w := by
  unfold maxLen at hm
  by_cases h : len ≤ 1048576
  · go_enter Trym.func13, Trym.ntmps13
    go_wp2
    go_ret
    exact ⟨by simp [h], rfl⟩
  · go_enter Trym.func13, Trym.ntmps13
    go_wp2
    go_ret
    exact ⟨by simp [h], rfl⟩

theorem word_any (j : Int) (w : World) :
    Calls Trym.prog 23 #[.int .i64 j] w fun e w' => e = .returned (.string (if j = 0 then ⟨#[116, 114, 117, 101]⟩ else if j = 1 then ⟨#[102, 97, 108, 115, 101]⟩ else ⟨#[110, 117, 108, 108]⟩)) ∧ w' = w := by
  by_cases h : j = 0
  · subst h
    go_enter Trym.func23, Trym.ntmps23
    go_wp2
    go_ret
    exact ⟨rfl, rfl⟩
  · by_cases h1 : j = 1
    · subst h1
      go_enter Trym.func23, Trym.ntmps23
      go_wp2
      go_ret
      exact ⟨rfl, rfl⟩
    · go_enter Trym.func23, Trym.ntmps23
      go_wp2
      go_ret
      exact ⟨by simp [h, h1], rfl⟩

theorem val_bool {a b : Bool} (h : a = b) : Value.bool a = Value.bool b := by rw [h]
theorem ret2 {a b : Nat} {x : Int} {y : Int} {q : Nat × Nat} (h : q = (a, b)) (hx : x = (a : Int)) (hy : y = (b : Int)) :
    Ending.returned (.tuple #[.int .i64 x, .int .u8 y]) = .returned (.tuple #[.int .i64 q.1, .int .u8 q.2]) := by
  subst h; subst hx; subst hy; rfl
theorem hide {p : Prop} (h : p) : Hid p := h

theorem ret_bool {a b : Bool} (h : a = b) : Ending.returned (.bool a) = .returned (.bool b) := by rw [h]
theorem ret_int {k : IntKind} {a b : Int} (h : a = b) : Ending.returned (.int k a) = .returned (.int k b) := by rw [h]

theorem isDigit_any (c : Int) (w : World) :
    Calls Trym.prog 27 #[.int .u8 c] w fun e w' => e = .returned (.bool (dig c)) ∧ w' = w := by
  by_cases h : 48 ≤ c
  · by_cases h1 : c ≤ 57
    · have hd : true = dig c := by simp [dig, h, h1]
      have H : Hid (true = dig c) := hd
      clear hd
      go_enter Trym.func27, Trym.ntmps27
      go_wp2
      go_ret
      exact ⟨ret_bool H.out, rfl⟩
    · have hd : false = dig c := by simp [dig, h, h1]
      have H : Hid (false = dig c) := hd
      clear hd
      go_enter Trym.func27, Trym.ntmps27
      go_wp2
      go_ret
      exact ⟨ret_bool H.out, rfl⟩
  · have hd : false = dig c := by simp [dig, h]
    have H : Hid (false = dig c) := hd
    clear hd
    go_enter Trym.func27, Trym.ntmps27
    go_wp2
    go_ret
    exact ⟨ret_bool H.out, rfl⟩

/-- A string's bytes as numbers. -/
def wl (s : ByteArray) : List Int := s.data.toList.map (fun c => (c.toNat : Int))

theorem wl_len (s : ByteArray) : (wl s).length = s.size := by simp [wl]
theorem wl_at (s : ByteArray) (k : Nat) (h : k < s.size) : (wl s).getD k 0 = ((s[k]'h).toNat : Int) := by
  have h' : k < s.data.toList.length := by simpa using h
  simp only [wl, List.getD_eq_getElem?_getD, List.getElem?_map, List.getElem?_eq_getElem h']
  rfl
theorem wl_drop (s : ByteArray) (k : Nat) (h : k < s.size) : (wl s).drop k = ((s[k]'h).toNat : Int) :: (wl s).drop (k + 1) := by
  rw [← wl_at s k h, List.drop_eq_getElem_cons (by rw [wl_len]; exact h)]
  simp [List.getD_eq_getElem?_getD, List.getElem?_eq_getElem (show k < (wl s).length by rw [wl_len]; exact h)]

/-- A text in memory: block b holds the bytes 'zs' from its head. -/
def Txt (w : World) (b : Nat) (zs : List Int) : Prop := ∀ i, i < zs.length → w.cell? ⟨b, i, none⟩ = some (.int .u8 (zs.getD i 0))

theorem getD_take (zs : List Int) (n i : Nat) (h : i < n) : (zs.take n).getD i 0 = zs.getD i 0 := by
  simp [List.getD_eq_getElem?_getD, List.getElem?_take, h]

theorem copy_step {w wr : World} {B len k : Nat} {zs : List Int} {xs : List Value} (hk : k < len) (hl : xs.length = len)
    (hp : ∀ j, j < k → xs[j]? = some (.int .u8 (zs.getD j 0))) (hown : wr.ownsRow B 5 1 (.slice (some ⟨B, 0, none⟩) len len) len xs) (hb : Below B w wr) :
    ∃ ys : List Value, ys.length = len ∧ (∀ j, j < k + 1 → ys[j]? = some (.int .u8 (zs.getD j 0))) ∧
      (wr.setCell ⟨B, k, none⟩ (.int .u8 (zs.getD k 0))).ownsRow B 5 1 (.slice (some ⟨B, 0, none⟩) len len) len ys ∧ Below B w (wr.setCell ⟨B, k, none⟩ (.int .u8 (zs.getD k 0))) := by
  refine ⟨xs.set k (.int .u8 (zs.getD k 0)), by simp [hl], ?_, (hown.stored k _).1, hb.setCell (Nat.le_refl _) _⟩
  intro j hj
  by_cases e : j = k
  · subst e; simp [List.getElem?_set, hl, hk]
  · rw [List.getElem?_set, if_neg (by omega)]; exact hp j (by omega)

set_option maxHeartbeats 400000 in
/-- 'copyBytes' of a slice that is not nil: a new block that holds the same bytes. -/
theorem copy_any (b off len cap : Nat) (zs : List Int) (w : World) (hl : len ≤ cap) (hm : len ≤ 1048576) (hz : zs.length = cap)
    (hc : ∀ i, i < zs.length → w.cell? ⟨b, off + i, none⟩ = some (.int .u8 (zs.getD i 0))) (hx : b < w.heap.size) :
    Calls Trym.prog 11 #[.slice (some ⟨b, off, none⟩) len cap] w fun e w' => e = .returned (.slice (some ⟨w.heap.size, 0, none⟩) len len) ∧ Txt w' w.heap.size (zs.take len) ∧ Below w.heap.size w w' := by
  obtain ⟨i0, hi, hz0, hz1, hz2⟩ := info_parts Trym.info5
  have hnil := fun (w : World) (a : Option Addr) (l c : Nat) => Lib.run_eql_slice_nil (P := Trym.prog) w 23 5 a l c 0 0 Trym.underlying23
  go_enter Trym.func11, Trym.ntmps11
  go_wp2_with (refine wpList_make_full _ rfl (.tmp 8) (.tmp 8) 23 rfl w.heap.size 5 i0 (.int .u8 0) 1 Trym.underlying23 hi hz0 hz1 .i64 .i64 _ _ len rfl rfl rfl rfl ?_ ?_ ?_ ?_)
  · rw [hz2]; omega
  · unfold maxLen; omega
  · exact Nat.le_refl _
  intro w1 hown hgr
  have hb1 : Below w.heap.size w w1 := (Below.refl _ _).grown hgr (Nat.le_refl _) (by intro k h; cases h)
  have hs1 := hown.1
  go_wp2
  go_loopw [4] (fun i wr => ∃ k : Nat, k ≤ len ∧ i = .int .i64 k ∧ ∃ xs : List Value, xs.length = len ∧ (∀ j, j < k → xs[j]? = some (.int .u8 (zs.getD j 0))) ∧
      wr.ownsRow w.heap.size 5 1 (.slice (some ⟨w.heap.size, 0, none⟩) len len) len xs ∧ Below w.heap.size w wr) (fun i _ => len - (intOf i).toNat)
  case atStart => exact ⟨0, Nat.zero_le _, rfl, _, by simpa using hs1, fun j h => absurd h (by omega), hown, hb1⟩
  case round =>
    obtain ⟨k, hk, rfl, xs, hxl, hxp, hownr, hbr⟩ := hrel
    clear hown hgr hb1 hs1
    by_cases hlt : k < len
    · have hcx : wr.cell? ⟨b, off + k, none⟩ = some (.int .u8 (zs.getD k 0)) := (hbr.cell hx).trans (hc k (by omega))
      have hcy : ∃ v, wr.cell? ⟨w.heap.size, k, none⟩ = some v := ⟨xs[k], by rw [hownr.cellAt k (by omega)]; simp⟩
      obtain ⟨v, hcy⟩ := hcy
      have hfr := hownr.frozenAt k
      have R := copy_step hlt hxl hxp hownr hbr
      clear hxp hownr
      go_wp2
      go_roundw
      case rel =>
        obtain ⟨ys, r1, r2, r3, r4⟩ := R
        exact ⟨k + 1, by omega, by go_num, ys, r1, r2, by simpa using r3, by simpa using r4⟩
      case measure => simp [intOf]; omega
    · obtain rfl : k = len := by omega
      have hT : Txt wr w.heap.size (zs.take k) := by
        intro i hi
        have hi' : i < k := by simp at hi; omega
        rw [hownr.cellAt i (by omega), hxp i hi', getD_take _ _ _ hi']
      clear hxp hownr
      go_wp2
      go_ret
      exact ⟨rfl, hT, hbr⟩

/-- A row that came in and holds a cell at least: its address written out. -/
theorem row_plain {k : IntKind} {w : World} {x : Addr} {zs : List Int} (h : ∀ i, i < zs.length → w.cell? (x.add i) = some (.int k (zs.getD i 0))) (h0 : 0 < zs.length) :
    ∃ b off, x = ⟨b, off, none⟩ ∧ b < w.heap.size ∧ ∀ i, i < zs.length → w.cell? ⟨b, off + i, none⟩ = some (.int k (zs.getD i 0)) := by
  obtain ⟨b, off, spot⟩ := x
  have hspot : spot = none := by simpa [Addr.add] using World.cell?_spot (h 0 h0)
  subst hspot
  have h' : ∀ j, j < zs.length → w.cell? ⟨b, off + j, none⟩ = some (.int k (zs.getD j 0)) := fun j hj => by rw [← WideShapes.add_plain]; exact h j hj
  exact ⟨b, off, rfl, World.block_lt_of_cell? w ⟨b, off + 0, none⟩ (h' 0 h0), h'⟩

/-- Draws turn nothing below any number. -/
theorem below_drewN {B : Nat} {w w1 : World} (h : Below B w w1) (n : Nat) : Below B w (w1.drewN n) := h.trans ⟨rfl, rfl, rfl, Nat.le_refl _, fun _ _ => rfl⟩

end Go.Proofs.Qxb6603780aMods
