/-
  The clock's entries as memory, and the makers and readers of 'zzexport.go'.
-/
import Derived.Test.Qxb6616830aState
namespace Go.Proofs.Qxb6616830a
open Go.RowKit
set_option linter.unusedVariables false

/-- The entries as a row of cells. -/
def rowE (nm : Nat → ByteArray) (cn : Nat → Int) : Nat → List Value
  | 0 => []
  | n + 1 => rowE nm cn n ++ [.string (nm n), .int .u64 (cn n)]
def rowS (nm : Nat → ByteArray) (n : Nat) : List Value := (List.range n).map (fun k => .string (nm k))
def rowC (cn : Nat → Int) (n : Nat) : List Value := (List.range n).map (fun k => .int .u64 (cn k))
theorem rowE_length (nm : Nat → ByteArray) (cn : Nat → Int) (n : Nat) : (rowE nm cn n).length = n * 2 := by
  induction n with
  | zero => rfl
  | succ n ih => simp only [rowE, List.length_append, ih, List.length_cons, List.length_nil]; omega
theorem rowE_at (nm : Nat → ByteArray) (cn : Nat → Int) (n k : Nat) (hk : k < n) : (rowE nm cn n)[k * 2]? = some (.string (nm k)) ∧ (rowE nm cn n)[k * 2 + 1]? = some (.int .u64 (cn k)) := by
  induction n with
  | zero => omega
  | succ n ih =>
    simp only [rowE]
    rcases Nat.lt_or_ge k n with h | h
    · rw [List.getElem?_append_left (by rw [rowE_length]; omega), List.getElem?_append_left (by rw [rowE_length]; omega)]
      exact ih h
    · obtain rfl : k = n := by omega
      rw [List.getElem?_append_right (by rw [rowE_length]; omega), List.getElem?_append_right (by rw [rowE_length]; omega), rowE_length]
      simp
theorem rowS_length (nm : Nat → ByteArray) (n : Nat) : (rowS nm n).length = n := by simp [rowS]
theorem rowC_length (cn : Nat → Int) (n : Nat) : (rowC cn n).length = n := by simp [rowC]
theorem rowS_at (nm : Nat → ByteArray) (n k : Nat) (hk : k < n) : (rowS nm n)[k]? = some (.string (nm k)) := by simp [rowS, hk]
theorem rowC_at (cn : Nat → Int) (n k : Nat) (hk : k < n) : (rowC cn n)[k]? = some (.int .u64 (cn k)) := by simp [rowC, hk]

/-- A slice of entries in memory: its block, read by cells. -/
structure Ent (w : World) (g n : Nat) (nm : Nat → ByteArray) (cn : Nat → Int) : Prop where
  lt : g < w.heap.size
  name : ∀ k, k < n → w.cell? ⟨g, k * 2, none⟩ = some (.string (nm k))
  count : ∀ k, k < n → w.cell? ⟨g, k * 2 + 1, none⟩ = some (.int .u64 (cn k))
  free : ∀ j, w.frozen? ⟨g, j, none⟩ = false
theorem Ent.of_row {w : World} {g n : Nat} {nm : Nat → ByteArray} {cn : Nat → Int} {X : List Value} (h : w.heap[g]? = some (.cells X.toArray 40 (0, 0))) (hX : ∀ j, j < n * 2 → X[j]? = (rowE nm cn n)[j]?) : Ent w g n nm cn := by
  refine ⟨lt_of_block h, fun k hk => ?_, fun k hk => ?_, fun j => frozen_of_row _ _ j _ _ h⟩
  · rw [cell_of_row w g _ _ _ _ h]
    simp only [List.getElem?_toArray]
    rw [hX _ (by omega), (rowE_at nm cn n k hk).1]
  · rw [cell_of_row w g _ _ _ _ h]
    simp only [List.getElem?_toArray]
    rw [hX _ (by omega), (rowE_at nm cn n k hk).2]
theorem Ent.kp {S : Nat → Prop} {w w' : World} {g n : Nat} {nm : Nat → ByteArray} {cn : Nat → Int} (h : Ent w g n nm cn) (hk : Kp S w w') (hs : ¬ S g) : Ent w' g n nm cn :=
  ⟨Nat.lt_of_lt_of_le h.lt hk.size, fun k hk' => hk.cell (h.name k hk') hs, fun k hk' => hk.cell (h.count k hk') hs, fun j => (World.frozen?_of_block (w := w) (hk.block g h.lt hs)).trans (h.free j)⟩

theorem info40 : (Try.prog.info? 40).map (fun i => (i.zero, i.size, i.bytes)) = some (some (.agg #[.string ⟨#[]⟩, .int .u64 0]), 2, 24) := by kernel_rfl
theorem info9 : (Try.prog.info? 9).map (fun i => (i.zero, i.size, i.bytes)) = some (some (.string ⟨#[]⟩), 1, 16) := by kernel_rfl
theorem info28 : (Try.prog.info? 28).map (fun i => (i.zero, i.size, i.bytes)) = some (some (.int .u64 0), 1, 8) := by kernel_rfl
theorem make40 (n : Nat) (hn : n ≤ 1048577) : ∃ Z : List Value, Z.length = n * 2 ∧ ∀ w : World, (Instr.makeSlice 29 (.int .i64 n) (.int .i64 n)).run Try.prog w = .ok (.slice (some ⟨w.heap.size, 0, none⟩) n n) (w.alloc (.cells Z.toArray 40)) := by
  obtain ⟨ti, hi0, hti⟩ := Option.map_eq_some_iff.1 info40
  simp only [Prod.mk.injEq] at hti
  obtain ⟨hz0, hz1, hz2⟩ := hti
  refine ⟨(madeCells #[.string ⟨#[]⟩, .int .u64 0] (n * 2)).toList, by simp [size_madeCells], fun w => ?_⟩
  have h := run_make (P := Try.prog) w 29 40 ti _ Try.underlying29 hi0 hz0 .i64 .i64 n n (by omega) (by omega) (by rw [hz2]; omega) (by omega)
  rw [h, hz1]
  simp [Value.cells]
theorem make9 (n : Nat) (hn : n ≤ 1048577) : ∃ Z : List Value, Z.length = n ∧ ∀ w : World, (Instr.makeSlice 22 (.int .i64 n) (.int .i64 n)).run Try.prog w = .ok (.slice (some ⟨w.heap.size, 0, none⟩) n n) (w.alloc (.cells Z.toArray 9)) := by
  obtain ⟨ti, hi0, hti⟩ := Option.map_eq_some_iff.1 info9
  simp only [Prod.mk.injEq] at hti
  obtain ⟨hz0, hz1, hz2⟩ := hti
  refine ⟨(madeCells #[.string ⟨#[]⟩] n).toList, by simp [size_madeCells], fun w => ?_⟩
  have h := run_make (P := Try.prog) w 22 9 ti _ Try.underlying22 hi0 hz0 .i64 .i64 n n (by omega) (by omega) (by rw [hz2]; omega) (by omega)
  rw [h, hz1]
  simp [Value.cells]
theorem make28 (n : Nat) (hn : n ≤ 1048577) : ∃ Z : List Value, Z.length = n ∧ ∀ w : World, (Instr.makeSlice 23 (.int .i64 n) (.int .i64 n)).run Try.prog w = .ok (.slice (some ⟨w.heap.size, 0, none⟩) n n) (w.alloc (.cells Z.toArray 28)) := by
  obtain ⟨ti, hi0, hti⟩ := Option.map_eq_some_iff.1 info28
  simp only [Prod.mk.injEq] at hti
  obtain ⟨hz0, hz1, hz2⟩ := hti
  refine ⟨(madeCells #[.int .u64 0] n).toList, by simp [size_madeCells], fun w => ?_⟩
  have h := run_make (P := Try.prog) w 23 28 ti _ Try.underlying23 hi0 hz0 .i64 .i64 n n (by omega) (by omega) (by rw [hz2]; omega) (by omega)
  rw [h, hz1]
  simp [Value.cells]

def N4 (sb cb B k N : Nat) (x : ByteArray) (c : Int) (wx : World) : Prop :=
  wx.cell? ⟨sb, k, none⟩ = some (.string x) ∧ wx.cell? ⟨cb, k, none⟩ = some (.int .u64 c) ∧ (∀ j, wx.frozen? ⟨B, j, none⟩ = false) ∧ (∀ j, j < N → wx.cell? ⟨B, j, none⟩ = some (cv wx B j))
theorem N4.set {sb cb B k N : Nat} {x : ByteArray} {c : Int} {wx : World} (h1 : sb ≠ B) (h2 : cb ≠ B) (i : Nat) (v : Value) (h : N4 sb cb B k N x c wx) : N4 sb cb B k N x c (wx.setCell ⟨B, i, none⟩ v) := by
  have hk : Kp (fun j => j = B) wx (wx.setCell ⟨B, i, none⟩ v) := (Kp.refl (fun j => j = B) wx).setCell (fun _ => rfl) _
  exact ⟨hk.cell h.1 h1, hk.cell h.2.1 h2, fun j => (World.frozen?_setCell _ _ _ _).trans (h.2.2.1 j), cvSet i v h.2.2.2⟩
theorem N4.drew {sb cb B k N : Nat} {x : ByteArray} {c : Int} {wx : World} (h : N4 sb cb B k N x c wx) : N4 sb cb B k N x c wx.drew := h
theorem mix_step2 {w : World} {b : Nat} {X Z : List Value} {t : TypeId} (hl : X.length = Z.length) (k : Nat) (v1 v2 : Value) (h1 : X[k * 2]? = some v1) (h2 : X[k * 2 + 1]? = some v2)
    (h : w.heap[b]? = some (.cells (mix X Z (k * 2)).toArray t (0, 0))) :
    ((w.setCell ⟨b, k * 2, none⟩ v1).setCell ⟨b, k * 2 + 1, none⟩ v2).heap[b]? = some (.cells (mix X Z ((k + 1) * 2)).toArray t (0, 0)) := by
  rw [heap_setCell_same _ _ _ _ _ _ (heap_setCell_same _ _ _ _ _ _ h), mix_set X Z hl _ _ h1, mix_set X Z hl _ _ h2, show (k + 1) * 2 = k * 2 + 1 + 1 from by omega]

theorem set3 {w : World} {b : Nat} {x0 x1 x2 y0 y1 y2 : Value} {t : TypeId} (h : w.heap[b]? = some (.cells #[x0, x1, x2] t (0, 0))) :
    (((w.setCell ⟨b, 0, none⟩ y0).setCell ⟨b, 1, none⟩ y1).setCell ⟨b, 2, none⟩ y2).heap[b]? = some (.cells #[y0, y1, y2] t (0, 0)) := by
  rw [heap_setCell_same _ _ _ _ _ _ (heap_setCell_same _ _ _ _ _ _ (heap_setCell_same _ _ _ _ _ _ h))]
  rfl

theorem mix_len {X Z : List Value} (h : X.length = Z.length) {k : Nat} (hk : k = X.length) : mix X Z k = X := by subst hk; exact mix_all X Z h

/-- What ZZnewClock leaves. -/
def NewPost (n : Nat) (nm : Nat → ByteArray) (cn : Nat → Int) (t : Int) (fz : Bool) (w : World) (e : Ending) (w' : World) : Prop :=
  ∃ g, e = .returned (.agg #[.slice (some ⟨g, 0, none⟩) n n, .int .u32 t, .bool fz]) ∧ w.heap.size ≤ g ∧ Ent w' g n nm cn ∧ Kp (fun _ => False) w w'

set_option maxRecDepth 100000 in
set_option maxHeartbeats 4000000 in
theorem new_any (a b : Option Addr) (n c1 c2 : Nat) (nm : Nat → ByteArray) (cn : Nat → Int) (t : Int) (fz : Bool) (w : World) (hn : n ≤ 1048576) (ha : StrAt w a n nm) (hb : CntAt w b n cn) :
    Calls Try.prog 8 #[.slice a n c1, .slice b n c2, .int .u32 t, .bool fz] w (NewPost n nm cn t fz w) := by
  obtain ⟨Z, hZ, hmk⟩ := make40 n (by omega)
  have hmw := hmk (w.alloc (.cells #[.slice none 0 0, .int .u32 0, .bool false] 31))
  have HZ := hide (show (rowE nm cn n).length = Z.length by rw [hZ, rowE_length])
  have HZ2 := hide hZ
  have HA := hide ha
  have HB := hide hb
  clear hZ hmk ha hb
  go_enter Try.func8, Try.ntmps8
  go_wp2
  go_loopw [16] (fun z wr => ∃ k : Nat, k ≤ n ∧ z = .int .i64 k ∧ wr.heap[w.heap.size]? = some (.cells #[.slice none 0 0, .int .u32 0, .bool false] 31 (0, 0)) ∧ wr.heap[w.heap.size + 1]? = some (.cells (mix (rowE nm cn n) Z (k * 2)).toArray 40 (0, 0)) ∧ Kp (fun _ => False) w wr) (fun z _ => n - (intOf z).toNat)
  case atStart =>
    refine ⟨0, by omega, rfl, heap_alloc2_old w _ _, ?_, ((Kp.refl _ w).alloc _).alloc _⟩
    rw [show 0 * 2 = 0 from rfl, mix_zero]
    exact heap_alloc2_new w _ _
  case round =>
    obtain ⟨k, hk, rfl, hclk, hrow, hkp⟩ := hrel
    by_cases hlt : k < n
    · have hlt' : (k : Int) < (n : Int) := by omega
      obtain ⟨sb, rfl, h1⟩ : ∃ b1, a = some ⟨b1, 0, none⟩ ∧ ∀ k, k < n → w.cell? ⟨b1, k, none⟩ = some (.string (nm k)) := by
        rcases HA.out with h | h
        · omega
        · exact h
      obtain ⟨cb, rfl, h2⟩ : ∃ b2, b = some ⟨b2, 0, none⟩ ∧ ∀ k, k < n → w.cell? ⟨b2, k, none⟩ = some (.int .u64 (cn k)) := by
        rcases HB.out with h | h
        · omega
        · exact h
      have e1 := h1 k hlt
      have e2 := h2 k hlt
      have l1 := World.block_lt_of_cell? _ _ e1
      have l2 := World.block_lt_of_cell? _ _ e2
      simp only at l1 l2
      have y := rowE_at nm cn n k hlt
      obtain ⟨x, hx⟩ : ∃ x, nm k = x := ⟨_, rfl⟩
      obtain ⟨c, hc⟩ : ∃ c, cn k = c := ⟨_, rfl⟩
      rw [hx] at e1 y
      rw [hc] at e2 y
      have c1 := hkp.cell e1 (fun f => f)
      have c2 := hkp.cell e2 (fun f => f)
      have cB : ∀ j, j < n * 2 → wr.cell? ⟨w.heap.size + 1, j, none⟩ = some (cv wr (w.heap.size + 1) j) := by
        have hh := cvAll hrow
        rw [mix_length _ _ HZ.out, HZ2.out] at hh
        exact hh
      have fB : ∀ j, wr.frozen? ⟨w.heap.size + 1, j, none⟩ = false := fun j => frozen_of_row wr _ j _ _ hrow
      have q0 : k * 2 < n * 2 := by omega
      have q1 : k * 2 + 1 < n * 2 := by omega
      have n1 : sb ≠ w.heap.size + 1 := by omega
      have n2 : cb ≠ w.heap.size + 1 := by omega
      have HROW := hide hrow
      have HK := hide hkp
      have HCLK := hide hclk
      have HY := hide y
      clear hrow hkp hclk y hx hc e1 e2 h1 h2 hmw HA HB
      go_wp2
      go_region_held3 (fun wx => wx.cell? ⟨sb, k, none⟩ = some (.string x) ∧ wx.cell? ⟨cb, k, none⟩ = some (.int .u64 c) ∧ (∀ j, wx.frozen? ⟨w.heap.size + 1, j, none⟩ = false) ∧ (∀ j, j < n * 2 → wx.cell? ⟨w.heap.size + 1, j, none⟩ = some (cv wx (w.heap.size + 1) j)))
        (first | exact ⟨c1, c2, fB, cB⟩ | exact (N4.set n1 n2 _ _ (N4.set n1 n2 _ _ (show N4 _ _ _ _ _ _ _ wr from ⟨c1, c2, fB, cB⟩))).drew) (fail)
      go_wp2
      go_roundw
      case rel =>
        exact ⟨k + 1, by omega, by go_num, (heap_setCell_other _ _ _ _ (by simp)).trans ((heap_setCell_other _ _ _ _ (by simp)).trans HCLK.out), mix_step2 HZ.out k _ _ HY.out.1 HY.out.2 HROW.out, ((HK.out.setCell (fun h => absurd h (by simp)) _).setCell (fun h => absurd h (by simp)) _).drew⟩
      case measure => simp [intOf]; omega
    · obtain rfl : k = n := by omega
      have k0 : wr.cell? ⟨w.heap.size, 0, none⟩ = some (.slice none 0 0) := (cell_of_row wr _ 0 _ _ _ hclk).trans rfl
      have k1 : wr.cell? ⟨w.heap.size, 1, none⟩ = some (.int .u32 0) := (cell_of_row wr _ 1 _ _ _ hclk).trans rfl
      have k2 : wr.cell? ⟨w.heap.size, 2, none⟩ = some (.bool false) := (cell_of_row wr _ 2 _ _ _ hclk).trans rfl
      have kf : ∀ j, wr.frozen? ⟨w.heap.size, j, none⟩ = false := fun j => frozen_of_row wr _ j _ _ hclk
      have HROW := hide hrow
      have HK := hide hkp
      have HCLK := hide hclk
      clear hrow hkp hclk hmw HA HB
      go_wp2
      have hfin := set3 (y0 := .slice (some ⟨w.heap.size + 1, 0, none⟩) k k) (y1 := .int .u32 t) (y2 := .bool fz) HCLK.out
      refine bodyPost_ret (v := .agg #[.slice (some ⟨w.heap.size + 1, 0, none⟩) k k, .int .u32 t, .bool fz]) (results_cell_row Try.results8 _ _ w.heap.size 31 _ (0, 0) _ rfl hfin Try.underlying31 rfl (by kernel_rfl)) rfl ?_
      have hall : wr.heap[w.heap.size + 1]? = some (.cells (rowE nm cn k).toArray 40 (0, 0)) := by
        rw [HROW.out, mix_len HZ.out (rowE_length nm cn k).symm]
      have hk3 : Kp (fun j => j = w.heap.size) wr (((wr.setCell ⟨w.heap.size, 0, none⟩ (.slice (some ⟨w.heap.size + 1, 0, none⟩) k k)).setCell ⟨w.heap.size, 1, none⟩ (.int .u32 t)).setCell ⟨w.heap.size, 2, none⟩ (.bool fz)) := (((Kp.refl (fun j => j = w.heap.size) wr).setCell (p := ⟨w.heap.size, 0, none⟩) (fun _ => rfl) _).setCell (p := ⟨w.heap.size, 1, none⟩) (fun _ => rfl) _).setCell (p := ⟨w.heap.size, 2, none⟩) (fun _ => rfl) _
      exact ⟨w.heap.size + 1, rfl, Nat.le_succ _, (Ent.of_row (X := rowE nm cn k) hall (fun j _ => rfl)).kp hk3 (by omega), HK.out.trans hk3 (fun i hi e => by omega)⟩

/-- A reader's answer: a new row. -/
def ReadPost (n : Nat) (t : TypeId) (X : List Value) (w : World) (e : Ending) (w' : World) : Prop :=
  ∃ g, e = .returned (.slice (some ⟨g, 0, none⟩) n n) ∧ w.heap.size ≤ g ∧ w'.heap[g]? = some (.cells X.toArray t (0, 0)) ∧ Kp (fun _ => False) w w'

set_option maxRecDepth 100000 in
set_option maxHeartbeats 4000000 in
theorem names_any (g n c : Nat) (nm : Nat → ByteArray) (cn : Nat → Int) (t : Int) (fz : Bool) (w : World) (hn : n ≤ 1048577) (hE : Ent w g n nm cn) :
    Calls Try.prog 10 #[.agg #[.slice (some ⟨g, 0, none⟩) n c, .int .u32 t, .bool fz]] w (ReadPost n 9 (rowS nm n) w) := by
  obtain ⟨Z, hZ, hmk⟩ := make9 n (by omega)
  have hmw := hmk (w.alloc (.cells #[.slice (some ⟨g, 0, none⟩) n c, .int .u32 t, .bool fz] 31))
  have HZ := hide (show (rowS nm n).length = Z.length by rw [hZ, rowS_length])
  have HZ2 := hide hZ
  have HE := hide hE
  clear hZ hmk hE
  go_enter Try.func10, Try.ntmps10
  go_wp2
  go_loopw [12] (fun z wr => ∃ k : Nat, k ≤ n ∧ z = .int .i64 k ∧ wr.heap[w.heap.size]? = some (.cells #[.slice (some ⟨g, 0, none⟩) n c, .int .u32 t, .bool fz] 31 (0, 0)) ∧ wr.heap[w.heap.size + 1]? = some (.cells (mix (rowS nm n) Z k).toArray 9 (0, 0)) ∧ Kp (fun _ => False) w wr) (fun z _ => n - (intOf z).toNat)
  case atStart =>
    refine ⟨0, by omega, rfl, heap_alloc2_old w _ _, ?_, ((Kp.refl _ w).alloc _).alloc _⟩
    rw [mix_zero]
    exact heap_alloc2_new w _ _
  case round =>
    obtain ⟨k, hk, rfl, hclk, hrow, hkp⟩ := hrel
    by_cases hlt : k < n
    · have hlt' : (k : Int) < (n : Int) := by omega
      have e1 := hkp.cell (HE.out.name k hlt) (fun f => f)
      have lg := HE.out.lt
      have k0 : wr.cell? ⟨w.heap.size, 0, none⟩ = some (.slice (some ⟨g, 0, none⟩) n c) := (cell_of_row wr _ 0 _ _ _ hclk).trans rfl
      have y := rowS_at nm n k hlt
      obtain ⟨x, hx⟩ : ∃ x, nm k = x := ⟨_, rfl⟩
      rw [hx] at e1 y
      have t1 : wr.cell? ⟨w.heap.size + 1, k, none⟩ = some (cv wr (w.heap.size + 1) k) := cvAll hrow k (by rw [mix_length _ _ HZ.out, HZ2.out]; omega)
      have f1 : wr.frozen? ⟨w.heap.size + 1, k, none⟩ = false := frozen_of_row wr _ k _ _ hrow
      have HCLK := hide ((heap_setCell_other wr ⟨w.heap.size + 1, k, none⟩ w.heap.size (.string x) (by simp)).trans hclk)
      have HROW := hide ((heap_setCell_same wr (w.heap.size + 1) k _ _ (.string x) hrow).trans (by rw [mix_set _ _ HZ.out _ _ y]))
      have HK := hide (hkp.setCell (p := ⟨w.heap.size + 1, k, none⟩) (fun h => absurd h (by simp)) (.string x))
      clear hrow hkp hclk y hx hmw HE
      go_wp2
      go_roundw
      case rel => exact ⟨k + 1, by omega, by go_num, HCLK.out, HROW.out, HK.out⟩
      case measure => simp [intOf]; omega
    · obtain rfl : k = n := by omega
      have hall : wr.heap[w.heap.size + 1]? = some (.cells (rowS nm k).toArray 9 (0, 0)) := by
        rw [hrow, mix_len HZ.out (rowS_length nm k).symm]
      have HROW := hide hall
      have HK := hide hkp
      clear hrow hkp hclk hmw HE hall
      go_wp2
      go_ret
      exact ⟨_, rfl, Nat.le_succ _, HROW.out, HK.out⟩
set_option maxRecDepth 100000 in
set_option maxHeartbeats 4000000 in
theorem counters_any (g n c : Nat) (nm : Nat → ByteArray) (cn : Nat → Int) (t : Int) (fz : Bool) (w : World) (hn : n ≤ 1048577) (hE : Ent w g n nm cn) :
    Calls Try.prog 11 #[.agg #[.slice (some ⟨g, 0, none⟩) n c, .int .u32 t, .bool fz]] w (ReadPost n 28 (rowC cn n) w) := by
  obtain ⟨Z, hZ, hmk⟩ := make28 n (by omega)
  have hmw := hmk (w.alloc (.cells #[.slice (some ⟨g, 0, none⟩) n c, .int .u32 t, .bool fz] 31))
  have HZ := hide (show (rowC cn n).length = Z.length by rw [hZ, rowC_length])
  have HZ2 := hide hZ
  have HE := hide hE
  clear hZ hmk hE
  go_enter Try.func11, Try.ntmps11
  go_wp2
  go_loopw [12] (fun z wr => ∃ k : Nat, k ≤ n ∧ z = .int .i64 k ∧ wr.heap[w.heap.size]? = some (.cells #[.slice (some ⟨g, 0, none⟩) n c, .int .u32 t, .bool fz] 31 (0, 0)) ∧ wr.heap[w.heap.size + 1]? = some (.cells (mix (rowC cn n) Z k).toArray 28 (0, 0)) ∧ Kp (fun _ => False) w wr) (fun z _ => n - (intOf z).toNat)
  case atStart =>
    refine ⟨0, by omega, rfl, heap_alloc2_old w _ _, ?_, ((Kp.refl _ w).alloc _).alloc _⟩
    rw [mix_zero]
    exact heap_alloc2_new w _ _
  case round =>
    obtain ⟨k, hk, rfl, hclk, hrow, hkp⟩ := hrel
    by_cases hlt : k < n
    · have hlt' : (k : Int) < (n : Int) := by omega
      have e1 := hkp.cell (HE.out.count k hlt) (fun f => f)
      have lg := HE.out.lt
      have k0 : wr.cell? ⟨w.heap.size, 0, none⟩ = some (.slice (some ⟨g, 0, none⟩) n c) := (cell_of_row wr _ 0 _ _ _ hclk).trans rfl
      have y := rowC_at cn n k hlt
      obtain ⟨x, hx⟩ : ∃ x, cn k = x := ⟨_, rfl⟩
      rw [hx] at e1 y
      have t1 : wr.cell? ⟨w.heap.size + 1, k, none⟩ = some (cv wr (w.heap.size + 1) k) := cvAll hrow k (by rw [mix_length _ _ HZ.out, HZ2.out]; omega)
      have f1 : wr.frozen? ⟨w.heap.size + 1, k, none⟩ = false := frozen_of_row wr _ k _ _ hrow
      have HCLK := hide ((heap_setCell_other wr ⟨w.heap.size + 1, k, none⟩ w.heap.size (.int .u64 x) (by simp)).trans hclk)
      have HROW := hide ((heap_setCell_same wr (w.heap.size + 1) k _ _ (.int .u64 x) hrow).trans (by rw [mix_set _ _ HZ.out _ _ y]))
      have HK := hide (hkp.setCell (p := ⟨w.heap.size + 1, k, none⟩) (fun h => absurd h (by simp)) (.int .u64 x))
      clear hrow hkp hclk y hx hmw HE
      go_wp2
      go_roundw
      case rel => exact ⟨k + 1, by omega, by go_num, HCLK.out, HROW.out, HK.out⟩
      case measure => simp [intOf]; omega
    · obtain rfl : k = n := by omega
      have hall : wr.heap[w.heap.size + 1]? = some (.cells (rowC cn k).toArray 28 (0, 0)) := by
        rw [hrow, mix_len HZ.out (rowC_length cn k).symm]
      have HROW := hide hall
      have HK := hide hkp
      clear hrow hkp hclk hmw HE hall
      go_wp2
      go_ret
      exact ⟨_, rfl, Nat.le_succ _, HROW.out, HK.out⟩

theorem ticked_any (v : Value) (t : Int) (fz : Bool) (w : World) :
    Calls Try.prog 13 #[.agg #[v, .int .u32 t, .bool fz]] w fun e w' => e = .returned (.int .u32 t) ∧ Kp (fun _ => False) w w' := by
  go_enter Try.func13, Try.ntmps13
  go_wp2
  go_ret
  exact ⟨rfl, (Kp.refl _ w).alloc _⟩
theorem frozen_any (v : Value) (t : Int) (fz : Bool) (w : World) :
    Calls Try.prog 14 #[.agg #[v, .int .u32 t, .bool fz]] w fun e w' => e = .returned (.bool fz) ∧ Kp (fun _ => False) w w' := by
  go_enter Try.func14, Try.ntmps14
  go_wp2
  go_ret
  exact ⟨rfl, (Kp.refl _ w).alloc _⟩

/-! ### The order of names -/
theorem lessB_irr (a : ByteArray) : lessB a a = false := by
  unfold lessB
  generalize a.toList = l
  induction l with
  | nil => rfl
  | cons x l ih => simp [Op.bytesLess, ih]
end Go.Proofs.Qxb6616830a
