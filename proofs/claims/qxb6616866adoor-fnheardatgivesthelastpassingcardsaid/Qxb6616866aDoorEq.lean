/-
  Time.Equal at two times that are one; Time.Add at the zero time, whatever the duration; zzb1At.
-/
import Derived.Test.Qxb6616866aDoorAdd
namespace Go.Proofs.Qxb6616866aDoor
open Go.RowKit
set_option linter.unusedVariables false

theorem and_self (x : Int) (h0 : 0 ≤ x) (hx : x < 1000000000) : bits .and .u64 x x = x := by
  obtain ⟨x, rfl⟩ := Int.eq_ofNat_of_zero_le h0
  have h := u64_and_nat x x (by omega) (by omega)
  rw [h]
  simp

/-- A time as a value. -/
def tv (r q : Int) : Value := .agg #[.int .u64 r, .int .i64 q, .pointer none]

theorem add_any (d : Int) (w : World) (hd : -4611686018427387904 ≤ d ∧ d ≤ 4611686018427387904) :
    Calls Tryd.prog 13 #[.agg #[.int .u64 0, .int .i64 0, .pointer none], .int .i64 d] w fun e w' => e = .returned (.agg #[.int .u64 (d % 1000000000), .int .i64 (d / 1000000000), .pointer none]) ∧ Kp (fun _ => False) w w' := by
  have h0 : 0 ≤ d % 1000000000 := Int.emod_nonneg _ (by decide)
  have h1 : d % 1000000000 < 1000000000 := Int.emod_lt_of_pos _ (by decide)
  have h2 : -4611686018427387905 ≤ d / 1000000000 ∧ d / 1000000000 ≤ 4611686018427387904 := by omega
  by_cases hn : 0 ≤ d
  · exact add_pos d _ _ w h2 h0 h1 (Int.tdiv_eq_ediv_of_nonneg hn) (Int.tmod_eq_emod_of_nonneg hn)
  · obtain ⟨e, rfl⟩ : ∃ e, d = -e := ⟨-d, by omega⟩
    have e1 : (-e).tdiv 1000000000 = -(e / 1000000000) := by rw [Int.neg_tdiv, Int.tdiv_eq_ediv_of_nonneg (by omega)]
    have e2 : (-e).tmod 1000000000 = -(e % 1000000000) := by rw [Int.neg_tmod, Int.tmod_eq_emod_of_nonneg (by omega)]
    by_cases hz : e % 1000000000 = 0
    · exact add_pos (-e) _ _ w h2 h0 h1 (by rw [e1]; omega) (by rw [e2]; omega)
    · exact add_neg (-e) _ _ w h2 h0 h1 (by rw [e1]; omega) (by rw [e2]; omega)

set_option maxRecDepth 100000 in
theorem equal_any (r q : Int) (w : World) (h0 : 0 ≤ r) (h1 : r < 1000000000) :
    Calls Tryd.prog 23 #[.agg #[.int .u64 r, .int .i64 q, .pointer none], .agg #[.int .u64 r, .int .i64 q, .pointer none]] w fun e w' => e = .returned (.bool true) ∧ Kp (fun _ => False) w w' := by
  obtain ⟨W2, hW2⟩ : ∃ x, (w.alloc (.cells #[.int .u64 r, .int .i64 q, .pointer none] 44)).alloc (.cells #[.int .u64 r, .int .i64 q, .pointer none] 44) = x := ⟨_, rfl⟩
  have r2 : W2.heap[w.heap.size]? = some (.cells #[.int .u64 r, .int .i64 q, .pointer none] 44 (0, 0)) := by rw [← hW2]; exact heap_alloc2_old w _ _
  have s2 : W2.heap[w.heap.size + 1]? = some (.cells #[.int .u64 r, .int .i64 q, .pointer none] 44 (0, 0)) := by rw [← hW2]; exact heap_alloc2_new w _ _
  have k2 : Kp (fun _ => False) w W2 := by rw [← hW2]; exact ((Kp.refl _ w).alloc _).alloc _
  have a0 : W2.cell? ⟨w.heap.size, 0, none⟩ = some (.int .u64 r) := (cell_of_row W2 _ 0 _ _ _ r2).trans rfl
  have a1 : W2.cell? ⟨w.heap.size, 1, none⟩ = some (.int .i64 q) := (cell_of_row W2 _ 1 _ _ _ r2).trans rfl
  have b0 : W2.cell? ⟨w.heap.size + 1, 0, none⟩ = some (.int .u64 r) := (cell_of_row W2 _ 0 _ _ _ s2).trans rfl
  have b1 : W2.cell? ⟨w.heap.size + 1, 1, none⟩ = some (.int .i64 q) := (cell_of_row W2 _ 1 _ _ _ s2).trans rfl
  have HN1 := hide (nsec_any w.heap.size r W2 h0 h1 a0)
  have HN2 := hide (nsec_any (w.heap.size + 1) r W2 h0 h1 b0)
  have HS1 := hide (sec_any w.heap.size r q W2 h0 h1 a0 a1)
  have HS2 := hide (sec_any (w.heap.size + 1) r q W2 h0 h1 b0 b1)
  have HK := hide k2
  have hb0 := and_self r h0 h1
  have hb2 := and_top r h0 h1
  clear r2 s2 k2
  go_enter Tryd.func23, Tryd.ntmps23
  go_wp2_with (go_at_call 22; refine HS1.out.mono ?_)
  rintro e w' ⟨rfl, rfl⟩
  clear HS1 hW2
  go_wp2_with (go_at_call 22; refine HS2.out.mono ?_)
  rintro e w' ⟨rfl, rfl⟩
  clear HS2
  go_wp2_with (go_at_call 18; refine HN1.out.mono ?_)
  rintro e w' ⟨rfl, rfl⟩
  clear HN1
  go_wp2_with (go_at_call 18; refine HN2.out.mono ?_)
  rintro e w' ⟨rfl, rfl⟩
  clear HN2
  go_wp2
  go_ret
  exact ⟨by first | rfl | simp, HK.out⟩

set_option maxRecDepth 100000 in
theorem at_any (d : Int) (w : World) (hd : -4611686018427387904 ≤ d ∧ d ≤ 4611686018427387904) :
    Calls Tryd.prog 9 #[.int .i64 d] w fun e w' => e = .returned (.agg #[.int .u64 (d % 1000000000), .int .i64 (d / 1000000000), .pointer none]) ∧ Kp (fun _ => False) w w' := by
  obtain ⟨W2, hW2⟩ : ∃ x, w.alloc (.cells #[.int .u64 0, .int .i64 0, .pointer none] 44) = x := ⟨_, rfl⟩
  have r2 : W2.heap[w.heap.size]? = some (.cells #[.int .u64 0, .int .i64 0, .pointer none] 44 (0, 0)) := by rw [← hW2]; exact heap_alloc_new w _
  have k2 : Kp (fun _ => False) w W2 := by rw [← hW2]; exact (Kp.refl _ w).alloc _
  have HA := hide (add_any d W2 hd)
  have HK := hide (And.intro r2 k2)
  clear r2 k2
  obtain ⟨r, hr⟩ : ∃ r, d % 1000000000 = r := ⟨_, rfl⟩
  obtain ⟨q, hq⟩ : ∃ q, d / 1000000000 = q := ⟨_, rfl⟩
  rw [hr, hq] at HA ⊢
  clear hr hq
  go_enter Tryd.func9, Tryd.ntmps9
  go_wp2_with (go_at_call 13; refine HA.out.mono ?_)
  rintro e w3 ⟨rfl, k3⟩
  obtain ⟨r2, k2⟩ := HK.out
  have r3 := k3.row r2 (fun f => f)
  have k3' := k2.trans k3 (fun _ _ f => f)
  have b0 : w3.cell? ⟨w.heap.size, 0, none⟩ = some (.int .u64 0) := (cell_of_row w3 _ 0 _ _ _ r3).trans rfl
  have b1 : w3.cell? ⟨w.heap.size, 1, none⟩ = some (.int .i64 0) := (cell_of_row w3 _ 1 _ _ _ r3).trans rfl
  have b2 : w3.cell? ⟨w.heap.size, 2, none⟩ = some (.pointer none) := (cell_of_row w3 _ 2 _ _ _ r3).trans rfl
  have f1 : ∀ j, w3.frozen? ⟨w.heap.size, j, none⟩ = false := fun j => frozen_of_row w3 _ j _ _ r3
  have HL := hide (And.intro r3 k3')
  clear r2 k2 HK r3 k3' k3 HA hW2
  go_wp2
  obtain ⟨r3, k3⟩ := HL.out
  refine bodyPost_ret (v := .agg #[.int .u64 r, .int .i64 q, .pointer none]) (results_cell_row Tryd.results9 _ _ w.heap.size 44 _ (0, 0) _ rfl (set3 r3) Tryd.underlying44 rfl (by kernel_rfl)) rfl ?_
  exact ⟨rfl, ((k3.setCell (p := ⟨w.heap.size, 0, none⟩) (fun h => absurd h (by simp)) _).setCell (p := ⟨w.heap.size, 1, none⟩) (fun h => absurd h (by simp)) _).setCell (p := ⟨w.heap.size, 2, none⟩) (fun h => absurd h (by simp)) _⟩
end Go.Proofs.Qxb6616866aDoor
