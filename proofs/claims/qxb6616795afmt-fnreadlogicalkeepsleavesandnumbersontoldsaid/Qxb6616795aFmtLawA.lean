/-
  The law's own text: the small pieces: the bound on bytes, makes and copies.
-/
import Derived.Test.Qxb6616795aFmtZZa
namespace Go.Proofs.Qxb6616795aFmt
open Go.RowKit

set_option maxRecDepth 100000 in
set_option maxHeartbeats 800000 in
theorem bytes_yes (a0 a6 a7 a8 : Option Addr) (n0 c0 n6 c6 n7 c7 n8 c8 : Nat) (x1 x2 x3 x4 x5 x9 : Int) (w : World) (h : n0 + n6 + n7 + n8 ≤ 1048576) :
    Calls Tryf.prog 4 #[.slice a0 n0 c0, .int .i64 x1, .int .i64 x2, .int .i64 x3, .int .i64 x4, .int .i64 x5, .slice a6 n6 c6, .slice a7 n7 c7, .slice a8 n8 c8, .int .i64 x9] w fun e w' => e = .returned (.bool true) ∧ w = w' := by
  go_enter Tryf.func4, Tryf.ntmps4
  go_wp2
  go_ret
  exact ⟨rfl, rfl⟩
set_option maxRecDepth 100000 in
set_option maxHeartbeats 800000 in
theorem bytes_no (a0 a6 a7 a8 : Option Addr) (n0 c0 n6 c6 n7 c7 n8 c8 : Nat) (x1 x2 x3 x4 x5 x9 : Int) (w : World) (h : ¬ n0 + n6 + n7 + n8 ≤ 1048576) (m0 : n0 ≤ 9223372036854775807) (m6 : n6 ≤ 9223372036854775807) (m7 : n7 ≤ 9223372036854775807) (m8 : n8 ≤ 9223372036854775807) :
    Calls Tryf.prog 4 #[.slice a0 n0 c0, .int .i64 x1, .int .i64 x2, .int .i64 x3, .int .i64 x4, .int .i64 x5, .slice a6 n6 c6, .slice a7 n7 c7, .slice a8 n8 c8, .int .i64 x9] w fun e w' => e = .returned (.bool false) ∧ w = w' := by
  go_enter Tryf.func4, Tryf.ntmps4
  go_wp2
  all_goals (go_ret; exact ⟨rfl, rfl⟩)

/-- What the walk is told of a slice of integers that came in: it is nil; or it leads to a row of 'cap' cells, the numbers 'zs' (the first 'len' are its elements). -/
def IsRow (k : IntKind) (w : World) (a : Option Addr) (len cap : Nat) (zs : List Int) : Prop :=
  (a = none ∧ len = 0 ∧ cap = 0 ∧ zs = []) ∨
  ∃ x, a = some x ∧ len ≤ cap ∧ cap ≤ maxLen ∧ zs.length = cap ∧ (∀ i, i < zs.length → w.cell? (x.add i) = some (.int k (zs.getD i 0))) ∧ ∀ n ∈ zs, (Lit.int k n).wf = true

theorem info5 : (Tryf.prog.info? 5).map (fun i => (i.zero, i.size, i.bytes)) = some (some (.int .u8 0), 1, 1) := by kernel_rfl
theorem infoS (e : TypeId) (h : e = 5 ∨ e = 3 ∨ e = 2) : ∃ i z, Tryf.prog.info? e = some i ∧ i.zero = some z ∧ z.cells.size = 1 ∧ i.size = 1 ∧ i.bytes ≤ 8 := by
  have k3 : (Tryf.prog.info? 3).map (fun i => (i.zero, i.size, i.bytes)) = some (some (.int .i64 0), 1, 8) := by kernel_rfl
  have k2 : (Tryf.prog.info? 2).map (fun i => (i.zero, i.size, i.bytes)) = some (some (.int .i64 0), 1, 8) := by kernel_rfl
  rcases h with rfl | rfl | rfl
  · obtain ⟨ti, hi0, hti⟩ := Option.map_eq_some_iff.1 info5
    simp only [Prod.mk.injEq] at hti
    exact ⟨ti, _, hi0, hti.1, rfl, hti.2.1, by omega⟩
  · obtain ⟨ti, hi0, hti⟩ := Option.map_eq_some_iff.1 k3
    simp only [Prod.mk.injEq] at hti
    exact ⟨ti, _, hi0, hti.1, rfl, hti.2.1, by omega⟩
  · obtain ⟨ti, hi0, hti⟩ := Option.map_eq_some_iff.1 k2
    simp only [Prod.mk.injEq] at hti
    exact ⟨ti, _, hi0, hti.1, rfl, hti.2.1, by omega⟩

/-- make(T, n) and copy(that, src): a new row that holds the source's elements. -/
theorem make_copy (T e : TypeId) (hT : Tryf.prog.underlying T = some (.slice e)) (he : e = 5 ∨ e = 3 ∨ e = 2) (k : IntKind) (n c : Nat) (hn : n ≤ 1048576) (x : Addr) (zs : List Int) (hz : n ≤ zs.length) (w : World)
    (hc : ∀ i, i < zs.length → w.cell? (x.add i) = some (.int k (zs.getD i 0))) :
    ∃ Z : List Value, (∀ w : World, (Instr.makeSlice T (.int .i64 n) (.int .i64 n)).run Tryf.prog w = .ok (.slice (some ⟨w.heap.size, 0, none⟩) n n) (w.alloc (.cells Z.toArray e))) ∧
      (Builtin.copy_ #[T, T] 3 #[.slice (some ⟨w.heap.size, 0, none⟩) n n, .slice (some x) n c]).run Tryf.prog (w.alloc (.cells Z.toArray e)) =
        .ok (.int .i64 n) ((w.alloc (.cells Z.toArray e)).setRow w.heap.size ((zs.take n).map (Value.int k)).toArray) ∧
      ((w.alloc (.cells Z.toArray e)).setRow w.heap.size ((zs.take n).map (Value.int k)).toArray).heap[w.heap.size]? = some (.cells ((zs.take n).map (Value.int k)).toArray e (0, 0)) ∧
      Kp (fun _ => False) w ((w.alloc (.cells Z.toArray e)).setRow w.heap.size ((zs.take n).map (Value.int k)).toArray) := by
  obtain ⟨i, z, hi, hz0, hzs, hs, hb⟩ := infoS e he
  refine ⟨(madeCells z.cells n).toList, fun w => ?_, ?_, ?_, ?_⟩
  · have h := run_make (P := Tryf.prog) w T e i z hT hi hz0 .i64 .i64 n n (by omega) (by omega) (by have : (i.bytes : Int) * (n : Int) ≤ 8 * 1048576 := Int.mul_le_mul (by omega) (by omega) (by omega) (by omega); omega) (by omega)
    rw [h, hs]
    simp
  · have hl : ((zs.take n).map (Value.int k)).length = n := by simp; omega
    have hk : Kp (fun _ => False) w (w.alloc (.cells (madeCells z.cells n).toList.toArray e)) := (Kp.refl _ w).alloc _
    have hsrc : ∀ j v, ((zs.take n).map (Value.int k))[j]? = some v → (w.alloc (.cells (madeCells z.cells n).toList.toArray e)).cell? (x.add j) = some v := by
      intro j v hv
      simp only [List.getElem?_map, List.getElem?_take] at hv
      split at hv
      · rename_i hj
        rw [List.getElem?_eq_getElem (by omega)] at hv
        simp at hv
        subst hv
        refine hk.cell ((hc j (by omega)).trans ?_) (fun f => f)
        simp [List.getElem?_eq_getElem (show j < zs.length by omega)]
      · simp at hv
    have h := run_copy_row (P := Tryf.prog) (w.alloc (.cells (madeCells z.cells n).toList.toArray e)) T T 3 e w.heap.size 0 n n x n c (madeCells z.cells n).toList.toArray e ((zs.take n).map (Value.int k)) hT (by rw [hi]; simp [hs]) (heap_alloc_new w _) (by rw [hl]; exact (Nat.min_self n).symm) hsrc (by simp [size_madeCells]; omega) (by
      intro v hv
      simp only [List.mem_map] at hv
      obtain ⟨x, _, rfl⟩ := hv
      rfl)
    rw [h, hl]
    simp only [goInt, List.take_zero, List.nil_append, Nat.zero_add]
    rw [List.drop_of_length_le (by simp [size_madeCells]), List.append_nil]
  · exact setRow_heap _ _ _ _ _ _ (heap_alloc_new w _)
  · exact ((Kp.refl _ w).alloc _).setRow (fun h => absurd h (by omega)) _
end Go.Proofs.Qxb6616795aFmt
