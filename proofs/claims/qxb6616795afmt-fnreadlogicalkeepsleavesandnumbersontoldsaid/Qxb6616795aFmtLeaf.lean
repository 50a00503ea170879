/-
  The contracts of the small functions: Uint32, used, extended, span, signed.
-/
import Derived.Test.Qxb6616795aFmtRead
import Derived.OpenShut
namespace Go.Proofs.Qxb6616795aFmt
open Go.RowKit

def u32of (b0 b1 b2 b3 : Int) : Int :=
  bits BinOp.or IntKind.u32
    (bits BinOp.or IntKind.u32
      (bits BinOp.or IntKind.u32 (b0 % 4294967296) (b1 % 4294967296 * 256 % 4294967296))
      (b2 % 4294967296 * 65536 % 4294967296))
    (b3 % 4294967296 * 16777216 % 4294967296)
theorem u32of_bd (b0 b1 b2 b3 : Int) : 0 ≤ u32of b0 b1 b2 b3 ∧ u32of b0 b1 b2 b3 < 4294967296 := by
  have h : (Lit.int .u32 (u32of b0 b1 b2 b3)).wf = true := wf_bits _ _ _ _
  have := bounds_u32 h
  omega

set_option maxRecDepth 100000 in
set_option maxHeartbeats 800000 in
theorem uint32_any (g off len cap : Nat) (b0 b1 b2 b3 : Int) (w : World) (h4 : 3 < len)
    (c0 : w.cell? ⟨g, off, none⟩ = some (.int .u8 b0)) (c1 : w.cell? ⟨g, off + 1, none⟩ = some (.int .u8 b1)) (c2 : w.cell? ⟨g, off + 2, none⟩ = some (.int .u8 b2)) (c3 : w.cell? ⟨g, off + 3, none⟩ = some (.int .u8 b3)) :
    Calls Tryf.prog 16 #[.agg #[], .slice (some ⟨g, off, none⟩) len cap] w fun e w' => e = .returned (.int .u32 (u32of b0 b1 b2 b3)) ∧ Below w.heap.size w w' := by
  have hlt2 : g < w.heap.size := World.block_lt_of_cell? _ _ c0
  have h4' : (3 : Int) < (len : Int) := by omega
  go_enter Tryf.func16, Tryf.ntmps16
  go_wp2
  go_quiet (fail)
  go_wp2
  go_ret
  exact ⟨rfl, ((Kp.refl (fun _ => False) w).alloc _).drewN _ |>.below (Nat.le_refl _) (fun _ h => h.elim)⟩

def usedB (kd sc : Int) : Bool := (kd != 0) && (sc != 0)
def extB (kd : Int) : Bool := (kd == 5) || (kd == 15) || (kd == 133)
theorem ret_bool {a b : Bool} (h : a = b) : Ending.returned (.bool a) = .returned (.bool b) := by rw [h]

set_option maxRecDepth 100000 in
set_option maxHeartbeats 800000 in
theorem used_any (st kd sa sc : Int) (w : World) :
    Calls Tryf.prog 11 #[.agg #[.int .u8 st, .int .u8 kd, .int .i64 sa, .int .i64 sc]] w fun e w' => e = .returned (.bool (usedB kd sc)) ∧ w.alloc (.cells #[.int .u8 st, .int .u8 kd, .int .i64 sa, .int .i64 sc] 43) = w' := by
  go_enter Tryf.func11, Tryf.ntmps11
  go_wp2
  all_goals
    go_ret
    refine ⟨ret_bool ?_, ?_⟩ <;> simp [usedB, *]

set_option maxRecDepth 100000 in
set_option maxHeartbeats 800000 in
theorem extended_any (st kd sa sc : Int) (w : World) :
    Calls Tryf.prog 12 #[.agg #[.int .u8 st, .int .u8 kd, .int .i64 sa, .int .i64 sc]] w fun e w' => e = .returned (.bool (extB kd)) ∧ w.alloc (.cells #[.int .u8 st, .int .u8 kd, .int .i64 sa, .int .i64 sc] 43) = w' := by
  go_enter Tryf.func12, Tryf.ntmps12
  go_wp2
  all_goals
    go_ret
    refine ⟨ret_bool ?_, ?_⟩ <;> simp [extB, *]

def signedB (R : List Int) : Bool := (R.getD 510 0 == 85) && (R.getD 511 0 == 170)

set_option maxRecDepth 100000 in
set_option maxHeartbeats 800000 in
theorem signed_any (g : Nat) (R : List Int) (w : World) (hg : w.heap[g]? = some (.cells (bytesV R).toArray 5 (0, 0))) (hR : R.length = 512) :
    Calls Tryf.prog 9 #[.slice (some ⟨g, 0, none⟩) 512 512] w fun e w' => e = .returned (.bool (signedB R)) ∧ w' = w := by
  have c1 : w.cell? ⟨g, 510, none⟩ = some (.int .u8 (R.getD 510 0)) := by
    rw [cell_of_row w g 510 _ _ _ hg]; simp [bytesV, hR]
  have c2 : w.cell? ⟨g, 511, none⟩ = some (.int .u8 (R.getD 511 0)) := by
    rw [cell_of_row w g 511 _ _ _ hg]; simp [bytesV, hR]
  clear hg
  obtain ⟨x, hx⟩ : ∃ x, x = R.getD 510 0 := ⟨_, rfl⟩
  obtain ⟨y, hy⟩ : ∃ x, x = R.getD 511 0 := ⟨_, rfl⟩
  have e : signedB R = ((x == 85) && (y == 170)) := by rw [hx, hy]; rfl
  rw [← hx] at c1
  rw [← hy] at c2
  rw [e]
  clear e hx hy
  go_enter Tryf.func9, Tryf.ntmps9
  go_wp2
  all_goals
    go_ret
    refine ⟨ret_bool ?_, rfl⟩
    simp [*]

set_option maxRecDepth 100000 in
set_option maxHeartbeats 800000 in
theorem span_any (st kd sa sc num base : Int) (w : World) :
    Calls Tryf.prog 14 #[.agg #[.int .u8 st, .int .u8 kd, .int .i64 sa, .int .i64 sc], .int .i64 num, .int .i64 base] w fun e w' => e = .returned (.agg #[.int .i64 num, .int .i64 (wrap64 (base + sa)), .int .i64 (wrap64 (wrap64 (wrap64 (base + sa) + sc) - 1))]) ∧ Below w.heap.size w w' := by
  go_enter Tryf.func14, Tryf.ntmps14
  go_wp2
  exact bodyPost_ret (v := .agg #[.int .i64 num, .int .i64 (wrap64 (base + sa)), .int .i64 (wrap64 (wrap64 (wrap64 (base + sa) + sc) - 1))]) (by simp [results, Tryf.results14, go_sem]) rfl ⟨rfl, ((Below.refl _ w).alloc (Nat.le_refl _) _).alloc (by simp) _⟩
end Go.Proofs.Qxb6616795aFmt
