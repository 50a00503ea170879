/-
  Times without a monotonic reading: nsec, sec, addSec, Add at the zero time, Equal, Sub.
-/
import Derived.Test.Qxb6616866aDoorKp
namespace Go.Proofs.Qxb6616866aDoor
open Go.RowKit
set_option linter.unusedVariables false

theorem and_low (x : Int) (h0 : 0 ≤ x) (hx : x < 1000000000) : bits .and .u64 x 1073741823 = x := by
  obtain ⟨x, rfl⟩ := Int.eq_ofNat_of_zero_le h0
  have h := u64_and_nat x 1073741823 (by omega) (by omega)
  rw [show ((1073741823 : Nat) : Int) = 1073741823 from rfl] at h
  rw [h, show (1073741823 : Nat) = 2 ^ 30 - 1 from rfl, Nat.and_two_pow_sub_one_eq_mod, Nat.mod_eq_of_lt (by omega)]
theorem and_top (x : Int) (h0 : 0 ≤ x) (hx : x < 1000000000) : bits .and .u64 x 9223372036854775808 = 0 := by
  obtain ⟨x, rfl⟩ := Int.eq_ofNat_of_zero_le h0
  have h := u64_and_nat x 9223372036854775808 (by omega) (by omega)
  rw [show ((9223372036854775808 : Nat) : Int) = 9223372036854775808 from rfl] at h
  rw [h]
  have : x &&& 9223372036854775808 = 0 := by
    rw [show (9223372036854775808 : Nat) = 2 ^ 63 from rfl]
    apply Nat.eq_of_testBit_eq
    intro i
    simp only [Nat.testBit_and, Nat.testBit_two_pow, Nat.zero_testBit]
    by_cases h : 63 = i
    · subst h
      rw [Nat.testBit_lt_two_pow (by omega : x < 2 ^ 63)]
      rfl
    · simp [h]
  rw [this]
  rfl
theorem or_zero (r : Int) (h0 : 0 ≤ r) (hr : r < 1000000000) : bits .or .u64 0 r = r := by
  obtain ⟨r, rfl⟩ := Int.eq_ofNat_of_zero_le h0
  have h := u64_or_nat 0 r (by omega) (by omega)
  rw [show ((0 : Nat) : Int) = 0 from rfl] at h
  rw [h]
  simp
theorem not_zero : bits .andNot .u64 0 1073741823 = 0 := by decide
theorem and_zero (x : Int) (h0 : 0 ≤ x) (hx : x < 1000000000) : bits .and .u64 x 0 = 0 := by
  obtain ⟨x, rfl⟩ := Int.eq_ofNat_of_zero_le h0
  have h := u64_and_nat x 0 (by omega) (by omega)
  rw [show ((0 : Nat) : Int) = 0 from rfl] at h
  rw [h]
  simp
theorem zero_top : bits .and .u64 0 9223372036854775808 = 0 := by decide

set_option maxRecDepth 100000 in
theorem nsec_any (B : Nat) (x : Int) (w : World) (h0 : 0 ≤ x) (hx : x < 1000000000) (c0 : w.cell? ⟨B, 0, none⟩ = some (.int .u64 x)) :
    Calls Tryd.prog 18 #[.pointer (some ⟨B, 0, none⟩)] w fun e w' => e = .returned (.int .i32 x) ∧ w = w' := by
  have h1 := and_low x h0 hx
  go_enter Tryd.func18, Tryd.ntmps18
  go_wp2
  go_ret
  exact ⟨by first | rfl | simp, rfl⟩

set_option maxRecDepth 100000 in
theorem sec_any (B : Nat) (x s : Int) (w : World) (h0 : 0 ≤ x) (hx : x < 1000000000) (c0 : w.cell? ⟨B, 0, none⟩ = some (.int .u64 x)) (c1 : w.cell? ⟨B, 1, none⟩ = some (.int .i64 s)) :
    Calls Tryd.prog 22 #[.pointer (some ⟨B, 0, none⟩)] w fun e w' => e = .returned (.int .i64 s) ∧ w = w' := by
  have h1 := and_top x h0 hx
  go_enter Tryd.func22, Tryd.ntmps22
  go_wp2
  go_ret
  exact ⟨by first | rfl | simp, rfl⟩

set_option maxRecDepth 100000 in
theorem addSec_any (B : Nat) (x d : Int) (w : World) (hx0 : 0 ≤ x) (hx : x < 1000000000) (hd : -9223372036854775808 ≤ d ∧ d ≤ 9223372036854775807) (hw : w.heap[B]? = some (.cells #[.int .u64 x, .int .i64 0, .pointer none] 44 (0, 0))) :
    Calls Tryd.prog 19 #[.pointer (some ⟨B, 0, none⟩), .int .i64 d] w fun e w' => e = .returned (.tuple #[]) ∧ w' = w.setCell ⟨B, 1, none⟩ (.int .i64 d) := by
  have c0 : w.cell? ⟨B, 0, none⟩ = some (.int .u64 x) := (cell_of_row w _ 0 _ _ _ hw).trans rfl
  have c1 : w.cell? ⟨B, 1, none⟩ = some (.int .i64 0) := (cell_of_row w _ 1 _ _ _ hw).trans rfl
  have f1 : w.frozen? ⟨B, 1, none⟩ = false := frozen_of_row w B 1 _ _ hw
  have h1 := and_top x hx0 hx
  obtain ⟨hd1, hd2⟩ := hd
  clear hw
  go_enter Tryd.func19, Tryd.ntmps19
  by_cases h0 : 0 < d
  · go_wp2
    go_end0
    exact ⟨rfl, rfl⟩
  · go_wp2
    go_end0
    exact ⟨rfl, rfl⟩

theorem set_row3 {w : World} {b : Nat} {x0 x1 x2 : Value} {t : TypeId} (h : w.heap[b]? = some (.cells #[x0, x1, x2] t (0, 0))) (y : Value) :
    (w.setCell ⟨b, 0, none⟩ y).heap[b]? = some (.cells #[y, x1, x2] t (0, 0)) ∧ (w.setCell ⟨b, 1, none⟩ y).heap[b]? = some (.cells #[x0, y, x2] t (0, 0)) := by
  constructor
  · rw [heap_setCell_same _ _ _ _ _ _ h]; rfl
  · rw [heap_setCell_same _ _ _ _ _ _ h]; rfl
end Go.Proofs.Qxb6616866aDoor
