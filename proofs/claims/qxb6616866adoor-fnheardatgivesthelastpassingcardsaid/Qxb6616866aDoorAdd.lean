/-
  Time.Add at the zero time.
-/
import Derived.Test.Qxb6616866aDoorTm
namespace Go.Proofs.Qxb6616866aDoor
open Go.RowKit
set_option linter.unusedVariables false

theorem set3 {w : World} {b : Nat} {x0 x1 x2 y0 y1 y2 : Value} {t : TypeId} (h : w.heap[b]? = some (.cells #[x0, x1, x2] t (0, 0))) :
    (((w.setCell ⟨b, 0, none⟩ y0).setCell ⟨b, 1, none⟩ y1).setCell ⟨b, 2, none⟩ y2).heap[b]? = some (.cells #[y0, y1, y2] t (0, 0)) := by
  rw [heap_setCell_same _ _ _ _ _ _ (heap_setCell_same _ _ _ _ _ _ (heap_setCell_same _ _ _ _ _ _ h))]
  rfl

set_option maxRecDepth 100000 in
theorem add_pos (d q r : Int) (w : World) (hq1 : -4611686018427387905 ≤ q ∧ q ≤ 4611686018427387904) (hr0 : 0 ≤ r) (hr1 : r < 1000000000) (hq : d.tdiv 1000000000 = q) (hr : d.tmod 1000000000 = r) :
    Calls Tryd.prog 13 #[.agg #[.int .u64 0, .int .i64 0, .pointer none], .int .i64 d] w fun e w' => e = .returned (.agg #[.int .u64 r, .int .i64 q, .pointer none]) ∧ Kp (fun _ => False) w w' := by
  obtain ⟨W2, hW2⟩ : ∃ x, (w.alloc (.cells #[.int .u64 0, .int .i64 0, .pointer none] 44)).alloc (.cells #[.int .u64 0, .int .i64 0, .pointer none] 44) = x := ⟨_, rfl⟩
  obtain ⟨W3, hW3⟩ : ∃ x, W2.setCell ⟨w.heap.size, 0, none⟩ (.int .u64 r) = x := ⟨_, rfl⟩
  obtain ⟨W4, hW4⟩ : ∃ x, W3.setCell ⟨w.heap.size, 1, none⟩ (.int .i64 q) = x := ⟨_, rfl⟩
  have r2 : W2.heap[w.heap.size]? = some (.cells #[.int .u64 0, .int .i64 0, .pointer none] 44 (0, 0)) := by rw [← hW2]; exact heap_alloc2_old w _ _
  have s2 : W2.heap[w.heap.size + 1]? = some (.cells #[.int .u64 0, .int .i64 0, .pointer none] 44 (0, 0)) := by rw [← hW2]; exact heap_alloc2_new w _ _
  have r3 : W3.heap[w.heap.size]? = some (.cells #[.int .u64 r, .int .i64 0, .pointer none] 44 (0, 0)) := by rw [← hW3]; exact (set_row3 r2 _).1
  have k23 : Kp (fun j => j = w.heap.size) W2 W4 := by
    rw [← hW4, ← hW3]
    exact ((Kp.refl (fun j => j = w.heap.size) W2).setCell (p := ⟨w.heap.size, 0, none⟩) (fun _ => rfl) _).setCell (p := ⟨w.heap.size, 1, none⟩) (fun _ => rfl) _
  have r4 : W4.heap[w.heap.size]? = some (.cells #[.int .u64 r, .int .i64 q, .pointer none] 44 (0, 0)) := by rw [← hW4]; exact (set_row3 r3 _).2
  have s4 := k23.row s2 (by omega)
  have k4 : Kp (fun _ => False) w W4 := by
    have k2 : Kp (fun _ => False) w W2 := by rw [← hW2]; exact ((Kp.refl _ w).alloc _).alloc _
    exact k2.trans k23 (fun i hi h => by omega)
  have c0 : W2.cell? ⟨w.heap.size, 0, none⟩ = some (.int .u64 0) := (cell_of_row W2 _ 0 _ _ _ r2).trans rfl
  have f0 : W2.frozen? ⟨w.heap.size, 0, none⟩ = false := frozen_of_row W2 _ 0 _ _ r2
  have a0 : W4.cell? ⟨w.heap.size, 0, none⟩ = some (.int .u64 r) := (cell_of_row W4 _ 0 _ _ _ r4).trans rfl
  have a1 : W4.cell? ⟨w.heap.size, 1, none⟩ = some (.int .i64 q) := (cell_of_row W4 _ 1 _ _ _ r4).trans rfl
  have a2 : W4.cell? ⟨w.heap.size, 2, none⟩ = some (.pointer none) := (cell_of_row W4 _ 2 _ _ _ r4).trans rfl
  have b0 : W4.cell? ⟨w.heap.size + 1, 0, none⟩ = some (.int .u64 0) := (cell_of_row W4 _ 0 _ _ _ s4).trans rfl
  have b1 : W4.cell? ⟨w.heap.size + 1, 1, none⟩ = some (.int .i64 0) := (cell_of_row W4 _ 1 _ _ _ s4).trans rfl
  have b2 : W4.cell? ⟨w.heap.size + 1, 2, none⟩ = some (.pointer none) := (cell_of_row W4 _ 2 _ _ _ s4).trans rfl
  have f1 : ∀ j, W4.frozen? ⟨w.heap.size + 1, j, none⟩ = false := fun j => frozen_of_row W4 _ j _ _ s4
  have HN := hide (nsec_any w.heap.size 0 W2 (by omega) (by omega) c0)
  have HA := hide (addSec_any w.heap.size r q W3 hr0 hr1 (by omega) r3)
  have hb0 := not_zero
  have hb1 := or_zero r hr0 hr1
  have hb2 := and_top r hr0 hr1
  obtain ⟨W5, hW5⟩ : ∃ x, ((W4.setCell ⟨w.heap.size + 1, 0, none⟩ (.int .u64 r)).setCell ⟨w.heap.size + 1, 1, none⟩ (.int .i64 q)).setCell ⟨w.heap.size + 1, 2, none⟩ (.pointer none) = x := ⟨_, rfl⟩
  have r5 : W5.heap[w.heap.size + 1]? = some (.cells #[.int .u64 r, .int .i64 q, .pointer none] 44 (0, 0)) := by rw [← hW5]; exact set3 s4
  have k5 : Kp (fun _ => False) w W5 := by
    rw [← hW5]
    exact ((k4.setCell (p := ⟨w.heap.size + 1, 0, none⟩) (fun h => absurd h (by simp)) _).setCell (p := ⟨w.heap.size + 1, 1, none⟩) (fun h => absurd h (by simp)) _).setCell (p := ⟨w.heap.size + 1, 2, none⟩) (fun h => absurd h (by simp)) _
  have HK := hide (And.intro r5 k5)
  obtain ⟨hq1, hq2⟩ := hq1
  clear r2 s2 r3 k23 r4 s4 k4 r5 k5
  go_enter Tryd.func13, Tryd.ntmps13
  go_wp2_with (go_at_call 18; refine HN.out.mono ?_)
  rintro e w' ⟨rfl, rfl⟩
  clear HN
  go_wp2_with (go_at_call 19; refine HA.out.mono ?_)
  rintro e w' ⟨rfl, rfl⟩
  rw [hW4]
  clear HA hW2 hW3
  go_wp2
  obtain ⟨r5, k5⟩ := HK.out
  refine bodyPost_ret (v := .agg #[.int .u64 r, .int .i64 q, .pointer none]) (results_cell_row Tryd.results13 _ _ (w.heap.size + 1) 44 _ (0, 0) _ rfl r5 Tryd.underlying44 rfl (by kernel_rfl)) rfl ?_
  exact ⟨rfl, k5⟩

set_option maxRecDepth 100000 in
theorem add_neg (d q r : Int) (w : World) (hq1 : -4611686018427387905 ≤ q ∧ q ≤ 4611686018427387904) (hr0 : 0 ≤ r) (hr1 : r < 1000000000) (hq : d.tdiv 1000000000 = q + 1) (hr : d.tmod 1000000000 = r - 1000000000) :
    Calls Tryd.prog 13 #[.agg #[.int .u64 0, .int .i64 0, .pointer none], .int .i64 d] w fun e w' => e = .returned (.agg #[.int .u64 r, .int .i64 q, .pointer none]) ∧ Kp (fun _ => False) w w' := by
  obtain ⟨W2, hW2⟩ : ∃ x, (w.alloc (.cells #[.int .u64 0, .int .i64 0, .pointer none] 44)).alloc (.cells #[.int .u64 0, .int .i64 0, .pointer none] 44) = x := ⟨_, rfl⟩
  obtain ⟨W3, hW3⟩ : ∃ x, W2.setCell ⟨w.heap.size, 0, none⟩ (.int .u64 r) = x := ⟨_, rfl⟩
  obtain ⟨W4, hW4⟩ : ∃ x, W3.setCell ⟨w.heap.size, 1, none⟩ (.int .i64 q) = x := ⟨_, rfl⟩
  have r2 : W2.heap[w.heap.size]? = some (.cells #[.int .u64 0, .int .i64 0, .pointer none] 44 (0, 0)) := by rw [← hW2]; exact heap_alloc2_old w _ _
  have s2 : W2.heap[w.heap.size + 1]? = some (.cells #[.int .u64 0, .int .i64 0, .pointer none] 44 (0, 0)) := by rw [← hW2]; exact heap_alloc2_new w _ _
  have r3 : W3.heap[w.heap.size]? = some (.cells #[.int .u64 r, .int .i64 0, .pointer none] 44 (0, 0)) := by rw [← hW3]; exact (set_row3 r2 _).1
  have k23 : Kp (fun j => j = w.heap.size) W2 W4 := by
    rw [← hW4, ← hW3]
    exact ((Kp.refl (fun j => j = w.heap.size) W2).setCell (p := ⟨w.heap.size, 0, none⟩) (fun _ => rfl) _).setCell (p := ⟨w.heap.size, 1, none⟩) (fun _ => rfl) _
  have r4 : W4.heap[w.heap.size]? = some (.cells #[.int .u64 r, .int .i64 q, .pointer none] 44 (0, 0)) := by rw [← hW4]; exact (set_row3 r3 _).2
  have s4 := k23.row s2 (by omega)
  have k4 : Kp (fun _ => False) w W4 := by
    have k2 : Kp (fun _ => False) w W2 := by rw [← hW2]; exact ((Kp.refl _ w).alloc _).alloc _
    exact k2.trans k23 (fun i hi h => by omega)
  have c0 : W2.cell? ⟨w.heap.size, 0, none⟩ = some (.int .u64 0) := (cell_of_row W2 _ 0 _ _ _ r2).trans rfl
  have f0 : W2.frozen? ⟨w.heap.size, 0, none⟩ = false := frozen_of_row W2 _ 0 _ _ r2
  have a0 : W4.cell? ⟨w.heap.size, 0, none⟩ = some (.int .u64 r) := (cell_of_row W4 _ 0 _ _ _ r4).trans rfl
  have a1 : W4.cell? ⟨w.heap.size, 1, none⟩ = some (.int .i64 q) := (cell_of_row W4 _ 1 _ _ _ r4).trans rfl
  have a2 : W4.cell? ⟨w.heap.size, 2, none⟩ = some (.pointer none) := (cell_of_row W4 _ 2 _ _ _ r4).trans rfl
  have b0 : W4.cell? ⟨w.heap.size + 1, 0, none⟩ = some (.int .u64 0) := (cell_of_row W4 _ 0 _ _ _ s4).trans rfl
  have b1 : W4.cell? ⟨w.heap.size + 1, 1, none⟩ = some (.int .i64 0) := (cell_of_row W4 _ 1 _ _ _ s4).trans rfl
  have b2 : W4.cell? ⟨w.heap.size + 1, 2, none⟩ = some (.pointer none) := (cell_of_row W4 _ 2 _ _ _ s4).trans rfl
  have f1 : ∀ j, W4.frozen? ⟨w.heap.size + 1, j, none⟩ = false := fun j => frozen_of_row W4 _ j _ _ s4
  have HN := hide (nsec_any w.heap.size 0 W2 (by omega) (by omega) c0)
  have HA := hide (addSec_any w.heap.size r q W3 hr0 hr1 (by omega) r3)
  have hb0 := not_zero
  have hb1 := or_zero r hr0 hr1
  have hb2 := and_top r hr0 hr1
  obtain ⟨W5, hW5⟩ : ∃ x, ((W4.setCell ⟨w.heap.size + 1, 0, none⟩ (.int .u64 r)).setCell ⟨w.heap.size + 1, 1, none⟩ (.int .i64 q)).setCell ⟨w.heap.size + 1, 2, none⟩ (.pointer none) = x := ⟨_, rfl⟩
  have r5 : W5.heap[w.heap.size + 1]? = some (.cells #[.int .u64 r, .int .i64 q, .pointer none] 44 (0, 0)) := by rw [← hW5]; exact set3 s4
  have k5 : Kp (fun _ => False) w W5 := by
    rw [← hW5]
    exact ((k4.setCell (p := ⟨w.heap.size + 1, 0, none⟩) (fun h => absurd h (by simp)) _).setCell (p := ⟨w.heap.size + 1, 1, none⟩) (fun h => absurd h (by simp)) _).setCell (p := ⟨w.heap.size + 1, 2, none⟩) (fun h => absurd h (by simp)) _
  have HK := hide (And.intro r5 k5)
  obtain ⟨hq1, hq2⟩ := hq1
  have i1 : q + 1 - 1 = q := by omega
  have i2 : r - 1000000000 + 1000000000 = r := by omega
  have i3 : r - 1000000000 < 0 := by omega
  clear r2 s2 r3 k23 r4 s4 k4 r5 k5
  go_enter Tryd.func13, Tryd.ntmps13
  go_wp2_with (go_at_call 18; refine HN.out.mono ?_)
  rintro e w' ⟨rfl, rfl⟩
  clear HN
  go_wp2_with (go_at_call 19; refine HA.out.mono ?_)
  rintro e w' ⟨rfl, rfl⟩
  rw [hW4]
  clear HA hW2 hW3
  go_wp2
  obtain ⟨r5, k5⟩ := HK.out
  refine bodyPost_ret (v := .agg #[.int .u64 r, .int .i64 q, .pointer none]) (results_cell_row Tryd.results13 _ _ (w.heap.size + 1) 44 _ (0, 0) _ rfl r5 Tryd.underlying44 rfl (by kernel_rfl)) rfl ?_
  exact ⟨rfl, k5⟩

end Go.Proofs.Qxb6616866aDoor
