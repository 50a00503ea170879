/-
  An address as a key: AddrFrom4, AddrPortFrom, zzb1Addr.
-/
import Derived.Test.Qxb6616866aDoorAdd
namespace Go.Proofs.Qxb6616866aDoor
open Go.RowKit
set_option linter.unusedVariables false

theorem join64 (i : Nat) (x y : Int) (hx₀ : 0 ≤ x) (hx : x % 2 ^ i = 0) (hx₁ : x < 9223372036854775808) (hy₀ : 0 ≤ y) (hy : y < 2 ^ i) (hy₁ : y < 9223372036854775808) : bits .or .u64 x y = x + y :=
  bits_join .u64 63 (by decide) (fun n h0 h1 => by
    unfold IntKind.wrap
    simp only [IntKind.signed, IntKind.bits]
    simp
    omega) i x y hx₀ hx (by omega) hy₀ hy (by omega)

set_option maxRecDepth 100000 in
theorem from4_any (b0 b1 b2 b3 : Int) (z : Option Addr) (w : World) (hz : w.cell? ⟨0, 0, none⟩ = some (.pointer z)) (h0 : 0 ≤ b0 ∧ b0 ≤ 255) (h1 : 0 ≤ b1 ∧ b1 ≤ 255) (h2 : 0 ≤ b2 ∧ b2 ≤ 255) (h3 : 0 ≤ b3 ∧ b3 ≤ 255) :
    Calls Tryd.prog 15 #[.agg #[.int .u8 b0, .int .u8 b1, .int .u8 b2, .int .u8 b3]] w fun e w' => e = .returned (.agg #[.int .u64 0, .int .u64 (281470681743360 + b0 * 16777216 + b1 * 65536 + b2 * 256 + b3), .pointer z]) ∧ Kp (fun _ => False) w w' := by
  have e1 := join64 32 281470681743360 (b0 * 16777216) (by omega) (by decide) (by omega) (by omega) (by omega) (by omega)
  have e2 := join64 24 (281470681743360 + b0 * 16777216) (b1 * 65536) (by omega) (by omega) (by omega) (by omega) (by omega) (by omega)
  have e3 := join64 16 (281470681743360 + b0 * 16777216 + b1 * 65536) (b2 * 256) (by omega) (by omega) (by omega) (by omega) (by omega) (by omega)
  have e4 := join64 8 (281470681743360 + b0 * 16777216 + b1 * 65536 + b2 * 256) b3 (by omega) (by omega) (by omega) (by omega) (by omega) (by omega)
  obtain ⟨x1, hx1⟩ : ∃ x, 281470681743360 + b0 * 16777216 = x := ⟨_, rfl⟩
  rw [hx1] at e1 e2 e3 e4 ⊢
  obtain ⟨x2, hx2⟩ : ∃ x, x1 + b1 * 65536 = x := ⟨_, rfl⟩
  rw [hx2] at e2 e3 e4 ⊢
  obtain ⟨x3, hx3⟩ : ∃ x, x2 + b2 * 256 = x := ⟨_, rfl⟩
  rw [hx3] at e3 e4 ⊢
  obtain ⟨x4, hx4⟩ : ∃ x, x3 + b3 = x := ⟨_, rfl⟩
  rw [hx4] at e4 ⊢
  clear hx1 hx2 hx3 hx4
  obtain ⟨W2, hW2⟩ : ∃ x, (w.alloc (.cells #[.int .u8 b0, .int .u8 b1, .int .u8 b2, .int .u8 b3] 63)).alloc (.cells #[.int .u64 0, .int .u64 0, .pointer none] 52) = x := ⟨_, rfl⟩
  have r2 : W2.heap[w.heap.size]? = some (.cells #[.int .u8 b0, .int .u8 b1, .int .u8 b2, .int .u8 b3] 63 (0, 0)) := by rw [← hW2]; exact heap_alloc2_old w _ _
  have s2 : W2.heap[w.heap.size + 1]? = some (.cells #[.int .u64 0, .int .u64 0, .pointer none] 52 (0, 0)) := by rw [← hW2]; exact heap_alloc2_new w _ _
  have k2 : Kp (fun _ => False) w W2 := by rw [← hW2]; exact ((Kp.refl _ w).alloc _).alloc _
  have a0 : W2.cell? ⟨w.heap.size, 0, none⟩ = some (.int .u8 b0) := (cell_of_row W2 _ 0 _ _ _ r2).trans rfl
  have a1 : W2.cell? ⟨w.heap.size, 1, none⟩ = some (.int .u8 b1) := (cell_of_row W2 _ 1 _ _ _ r2).trans rfl
  have a2 : W2.cell? ⟨w.heap.size, 2, none⟩ = some (.int .u8 b2) := (cell_of_row W2 _ 2 _ _ _ r2).trans rfl
  have a3 : W2.cell? ⟨w.heap.size, 3, none⟩ = some (.int .u8 b3) := (cell_of_row W2 _ 3 _ _ _ r2).trans rfl
  have c0 : W2.cell? ⟨w.heap.size + 1, 0, none⟩ = some (.int .u64 0) := (cell_of_row W2 _ 0 _ _ _ s2).trans rfl
  have c1 : W2.cell? ⟨w.heap.size + 1, 1, none⟩ = some (.int .u64 0) := (cell_of_row W2 _ 1 _ _ _ s2).trans rfl
  have c2 : W2.cell? ⟨w.heap.size + 1, 2, none⟩ = some (.pointer none) := (cell_of_row W2 _ 2 _ _ _ s2).trans rfl
  have f1 : ∀ j, W2.frozen? ⟨w.heap.size + 1, j, none⟩ = false := fun j => frozen_of_row W2 _ j _ _ s2
  have hz2 : W2.cell? ⟨0, 0, none⟩ = some (.pointer z) := k2.cell hz (fun f => f)
  have HK := hide (And.intro s2 k2)
  obtain ⟨p1, p2⟩ := h0
  obtain ⟨p3, p4⟩ := h1
  obtain ⟨p5, p6⟩ := h2
  obtain ⟨p7, p8⟩ := h3
  clear r2 s2 k2 hz
  go_enter Tryd.func15, Tryd.ntmps15
  go_wp2
  obtain ⟨s2, k2⟩ := HK.out
  refine bodyPost_ret (v := .agg #[.int .u64 0, .int .u64 x4, .pointer z]) (results_cell_row Tryd.results15 _ _ (w.heap.size + 1) 52 _ (0, 0) _ rfl (set3 s2) Tryd.underlying52 rfl (by kernel_rfl)) rfl ?_
  exact ⟨rfl, ((k2.setCell (p := ⟨w.heap.size + 1, 0, none⟩) (fun h => absurd h (by simp)) _).setCell (p := ⟨w.heap.size + 1, 1, none⟩) (fun h => absurd h (by simp)) _).setCell (p := ⟨w.heap.size + 1, 2, none⟩) (fun h => absurd h (by simp)) _⟩

theorem set4 {w : World} {b : Nat} {x0 x1 x2 x3 y0 y1 y2 y3 : Value} {t : TypeId} (h : w.heap[b]? = some (.cells #[x0, x1, x2, x3] t (0, 0))) :
    ((((w.setCell ⟨b, 0, none⟩ y0).setCell ⟨b, 1, none⟩ y1).setCell ⟨b, 2, none⟩ y2).setCell ⟨b, 3, none⟩ y3).heap[b]? = some (.cells #[y0, y1, y2, y3] t (0, 0)) := by
  rw [heap_setCell_same _ _ _ _ _ _ (heap_setCell_same _ _ _ _ _ _ (heap_setCell_same _ _ _ _ _ _ (heap_setCell_same _ _ _ _ _ _ h)))]
  rfl

/-- An address and a port as a key. -/
def kv (z : Option Addr) (a p : Int) : Value := .agg #[.int .u64 0, .int .u64 (281470681743360 + a), .pointer z, .int .u16 p]

set_option maxRecDepth 100000 in
theorem portFrom_any (x p : Int) (z : Option Addr) (w : World) :
    Calls Tryd.prog 14 #[.agg #[.int .u64 0, .int .u64 x, .pointer z], .int .u16 p] w fun e w' => e = .returned (.agg #[.int .u64 0, .int .u64 x, .pointer z, .int .u16 p]) ∧ Kp (fun _ => False) w w' := by
  obtain ⟨W2, hW2⟩ : ∃ y, (w.alloc (.cells #[.int .u64 0, .int .u64 x, .pointer z] 52)).alloc (.cells #[.int .u64 0, .int .u64 0, .pointer none, .int .u16 0] 54) = y := ⟨_, rfl⟩
  have r2 : W2.heap[w.heap.size]? = some (.cells #[.int .u64 0, .int .u64 x, .pointer z] 52 (0, 0)) := by rw [← hW2]; exact heap_alloc2_old w _ _
  have s2 : W2.heap[w.heap.size + 1]? = some (.cells #[.int .u64 0, .int .u64 0, .pointer none, .int .u16 0] 54 (0, 0)) := by rw [← hW2]; exact heap_alloc2_new w _ _
  have k2 : Kp (fun _ => False) w W2 := by rw [← hW2]; exact ((Kp.refl _ w).alloc _).alloc _
  have a0 : W2.cell? ⟨w.heap.size, 0, none⟩ = some (.int .u64 0) := (cell_of_row W2 _ 0 _ _ _ r2).trans rfl
  have a1 : W2.cell? ⟨w.heap.size, 1, none⟩ = some (.int .u64 x) := (cell_of_row W2 _ 1 _ _ _ r2).trans rfl
  have a2 : W2.cell? ⟨w.heap.size, 2, none⟩ = some (.pointer z) := (cell_of_row W2 _ 2 _ _ _ r2).trans rfl
  have c0 : W2.cell? ⟨w.heap.size + 1, 0, none⟩ = some (.int .u64 0) := (cell_of_row W2 _ 0 _ _ _ s2).trans rfl
  have c1 : W2.cell? ⟨w.heap.size + 1, 1, none⟩ = some (.int .u64 0) := (cell_of_row W2 _ 1 _ _ _ s2).trans rfl
  have c2 : W2.cell? ⟨w.heap.size + 1, 2, none⟩ = some (.pointer none) := (cell_of_row W2 _ 2 _ _ _ s2).trans rfl
  have c3 : W2.cell? ⟨w.heap.size + 1, 3, none⟩ = some (.int .u16 0) := (cell_of_row W2 _ 3 _ _ _ s2).trans rfl
  have f1 : ∀ j, W2.frozen? ⟨w.heap.size + 1, j, none⟩ = false := fun j => frozen_of_row W2 _ j _ _ s2
  have HK := hide (And.intro s2 k2)
  clear r2 s2 k2
  go_enter Tryd.func14, Tryd.ntmps14
  go_wp2
  obtain ⟨s2, k2⟩ := HK.out
  refine bodyPost_ret (v := .agg #[.int .u64 0, .int .u64 x, .pointer z, .int .u16 p]) (results_cell_row Tryd.results14 _ _ (w.heap.size + 1) 54 _ (0, 0) _ rfl (set4 s2) Tryd.underlying54 rfl (by kernel_rfl)) rfl ?_
  exact ⟨rfl, (((k2.setCell (p := ⟨w.heap.size + 1, 0, none⟩) (fun h => absurd h (by simp)) _).setCell (p := ⟨w.heap.size + 1, 1, none⟩) (fun h => absurd h (by simp)) _).setCell (p := ⟨w.heap.size + 1, 2, none⟩) (fun h => absurd h (by simp)) _).setCell (p := ⟨w.heap.size + 1, 3, none⟩) (fun h => absurd h (by simp)) _⟩

theorem lo_is (a : Int) : 281470681743360 + a / 16777216 * 16777216 + a / 65536 % 256 * 65536 + a / 256 % 256 * 256 + a % 256 = 281470681743360 + a := by
  have h1 : a / 65536 = a / 256 / 256 := by omega
  have h2 : a / 16777216 = a / 256 / 256 / 256 := by omega
  rw [h1, h2]
  have e1 := Int.mul_ediv_add_emod a 256
  have e2 := Int.mul_ediv_add_emod (a / 256) 256
  have e3 := Int.mul_ediv_add_emod (a / 256 / 256) 256
  generalize a / 256 / 256 / 256 = q3 at *
  generalize a / 256 / 256 % 256 = r2 at *
  generalize a / 256 / 256 = q2 at *
  generalize a / 256 % 256 = r1 at *
  generalize a / 256 = q1 at *
  generalize a % 256 = r0 at *
  omega

set_option maxRecDepth 100000 in
theorem addr_any (a p : Int) (z : Option Addr) (w : World) (h0 : 0 ≤ a) (h1 : a ≤ 4294967295) (hz : w.cell? ⟨0, 0, none⟩ = some (.pointer z)) :
    Calls Tryd.prog 10 #[.int .u32 a, .int .u16 p] w fun e w' => e = .returned (kv z a p) ∧ Kp (fun _ => False) w w' := by
  obtain ⟨W2, hW2⟩ : ∃ y, w.alloc (.cells #[.int .u64 0, .int .u64 0, .pointer none, .int .u16 0] 54) = y := ⟨_, rfl⟩
  have s2 : W2.heap[w.heap.size]? = some (.cells #[.int .u64 0, .int .u64 0, .pointer none, .int .u16 0] 54 (0, 0)) := by rw [← hW2]; exact heap_alloc_new w _
  have k2 : Kp (fun _ => False) w W2 := by rw [← hW2]; exact (Kp.refl _ w).alloc _
  have HF := hide (from4_any (a / 16777216) (a / 65536 % 256) (a / 256 % 256) (a % 256) z W2 (k2.cell hz (fun f => f)) (by omega) (by omega) (by omega) (by omega))
  rw [lo_is a] at HF
  have HP := hide (fun w => portFrom_any (281470681743360 + a) p z w)
  have HK := hide (And.intro s2 k2)
  clear s2 k2 hz
  unfold kv
  obtain ⟨x, hx⟩ : ∃ x, 281470681743360 + a = x := ⟨_, rfl⟩
  rw [hx] at HF HP ⊢
  clear hx
  go_enter Tryd.func10, Tryd.ntmps10
  go_wp2_with (go_at_call 15; refine HF.out.mono ?_)
  rintro e w3 ⟨rfl, k3⟩
  obtain ⟨s2, k2⟩ := HK.out
  have HK := hide (And.intro (k3.row s2 (fun f => f)) (k2.trans k3 (fun _ _ f => f)))
  clear HF k3 s2 k2 hW2
  go_wp2_with (go_at_call 14; refine (HP.out _).mono ?_)
  rintro e w4 ⟨rfl, k4⟩
  obtain ⟨s3, k3⟩ := HK.out
  have s4 := k4.row s3 (fun f => f)
  have k5 := k3.trans k4 (fun _ _ f => f)
  have c0 : w4.cell? ⟨w.heap.size, 0, none⟩ = some (.int .u64 0) := (cell_of_row w4 _ 0 _ _ _ s4).trans rfl
  have c1 : w4.cell? ⟨w.heap.size, 1, none⟩ = some (.int .u64 0) := (cell_of_row w4 _ 1 _ _ _ s4).trans rfl
  have c2 : w4.cell? ⟨w.heap.size, 2, none⟩ = some (.pointer none) := (cell_of_row w4 _ 2 _ _ _ s4).trans rfl
  have c3 : w4.cell? ⟨w.heap.size, 3, none⟩ = some (.int .u16 0) := (cell_of_row w4 _ 3 _ _ _ s4).trans rfl
  have f1 : ∀ j, w4.frozen? ⟨w.heap.size, j, none⟩ = false := fun j => frozen_of_row w4 _ j _ _ s4
  have HL := hide (And.intro s4 k5)
  clear HP HK s3 k3 s4 k5 k4
  go_wp2
  obtain ⟨s2, k2⟩ := HL.out
  refine bodyPost_ret (v := .agg #[.int .u64 0, .int .u64 x, .pointer z, .int .u16 p]) (results_cell_row Tryd.results10 _ _ w.heap.size 54 _ (0, 0) _ rfl (set4 s2) Tryd.underlying54 rfl (by kernel_rfl)) rfl ?_
  exact ⟨rfl, (((k2.setCell (p := ⟨w.heap.size, 0, none⟩) (fun h => absurd h (by simp)) _).setCell (p := ⟨w.heap.size, 1, none⟩) (fun h => absurd h (by simp)) _).setCell (p := ⟨w.heap.size, 2, none⟩) (fun h => absurd h (by simp)) _).setCell (p := ⟨w.heap.size, 3, none⟩) (fun h => absurd h (by simp)) _⟩
end Go.Proofs.Qxb6616866aDoor
