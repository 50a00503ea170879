/-
  Time.Sub of the zero time; zzb1Ns.
-/
import Derived.Test.Qxb6616866aDoorEq
namespace Go.Proofs.Qxb6616866aDoor
open Go.RowKit
set_option linter.unusedVariables false

/-- Block B holds the time, block C the zero time. -/
def ZS (B C : Nat) (r q : Int) (wx : World) : Prop :=
  wx.cell? ⟨B, 0, none⟩ = some (.int .u64 r) ∧ wx.cell? ⟨B, 1, none⟩ = some (.int .i64 q) ∧ wx.cell? ⟨B, 2, none⟩ = some (.pointer none) ∧ wx.cell? ⟨C, 0, none⟩ = some (.int .u64 0) ∧ wx.cell? ⟨C, 1, none⟩ = some (.int .i64 0) ∧ wx.cell? ⟨C, 2, none⟩ = some (.pointer none)
theorem ZS.kp {B C : Nat} {r q : Int} {w w' : World} (h : ZS B C r q w) (hk : Kp (fun _ => False) w w') : ZS B C r q w' :=
  ⟨hk.cell h.1 (fun f => f), hk.cell h.2.1 (fun f => f), hk.cell h.2.2.1 (fun f => f), hk.cell h.2.2.2.1 (fun f => f), hk.cell h.2.2.2.2.1 (fun f => f), hk.cell h.2.2.2.2.2 (fun f => f)⟩

set_option maxRecDepth 100000 in
set_option maxHeartbeats 1000000 in
theorem sub_any (d r q : Int) (w : World) (hd : -4611686018427387904 ≤ d ∧ d ≤ 4611686018427387904) (hr : d % 1000000000 = r) (hq : d / 1000000000 = q) :
    Calls Tryd.prog 16 #[.agg #[.int .u64 r, .int .i64 q, .pointer none], .agg #[.int .u64 0, .int .i64 0, .pointer none]] w fun e w' => e = .returned (.int .i64 d) ∧ Kp (fun _ => False) w w' := by
  have h0 : 0 ≤ r := by omega
  have h1 : r < 1000000000 := by omega
  have HA := hide (fun w => add_any d w hd)
  rw [hr, hq] at HA
  have hdd : q * 1000000000 + r = d := by omega
  obtain ⟨W2, hW2⟩ : ∃ x, (w.alloc (.cells #[.int .u64 r, .int .i64 q, .pointer none] 44)).alloc (.cells #[.int .u64 0, .int .i64 0, .pointer none] 44) = x := ⟨_, rfl⟩
  have r2 : W2.heap[w.heap.size]? = some (.cells #[.int .u64 r, .int .i64 q, .pointer none] 44 (0, 0)) := by rw [← hW2]; exact heap_alloc2_old w _ _
  have s2 : W2.heap[w.heap.size + 1]? = some (.cells #[.int .u64 0, .int .i64 0, .pointer none] 44 (0, 0)) := by rw [← hW2]; exact heap_alloc2_new w _ _
  have k2 : Kp (fun _ => False) w W2 := by rw [← hW2]; exact ((Kp.refl _ w).alloc _).alloc _
  have a0 : W2.cell? ⟨w.heap.size, 0, none⟩ = some (.int .u64 r) := (cell_of_row W2 _ 0 _ _ _ r2).trans rfl
  have a1 : W2.cell? ⟨w.heap.size, 1, none⟩ = some (.int .i64 q) := (cell_of_row W2 _ 1 _ _ _ r2).trans rfl
  have a2 : W2.cell? ⟨w.heap.size, 2, none⟩ = some (.pointer none) := (cell_of_row W2 _ 2 _ _ _ r2).trans rfl
  have b0 : W2.cell? ⟨w.heap.size + 1, 0, none⟩ = some (.int .u64 0) := (cell_of_row W2 _ 0 _ _ _ s2).trans rfl
  have b1 : W2.cell? ⟨w.heap.size + 1, 1, none⟩ = some (.int .i64 0) := (cell_of_row W2 _ 1 _ _ _ s2).trans rfl
  have b2 : W2.cell? ⟨w.heap.size + 1, 2, none⟩ = some (.pointer none) := (cell_of_row W2 _ 2 _ _ _ s2).trans rfl
  have HN1 := hide (nsec_any w.heap.size r W2 h0 h1 a0)
  have HN2 := hide (nsec_any (w.heap.size + 1) 0 W2 (by omega) (by omega) b0)
  have HS1 := hide (sec_any w.heap.size r q W2 h0 h1 a0 a1)
  have HS2 := hide (sec_any (w.heap.size + 1) 0 0 W2 (by omega) (by omega) b0 b1)
  have HE := hide (fun w => equal_any r q w h0 h1)
  have HK := hide k2
  have ZS0 := hide (show ZS w.heap.size (w.heap.size + 1) r q W2 from ⟨a0, a1, a2, b0, b1, b2⟩)
  have hb0 := and_zero r h0 h1
  have hb2 := zero_top
  have hq3 : -4611686019 ≤ q := by omega
  have hq4 : q ≤ 4611686019 := by omega
  have hd1 := hd.1
  have hd2 := hd.2
  clear r2 s2 k2 hd hr hq
  go_enter Tryd.func16, Tryd.ntmps16
  go_wp2_with (go_at_call 22; refine HS1.out.mono ?_)
  rintro e w' ⟨rfl, rfl⟩
  clear HS1 hW2
  go_wp2_with (go_at_call 22; refine HS2.out.mono ?_)
  rintro e w' ⟨rfl, rfl⟩
  clear HS2
  go_wp2_with (go_at_call 18; refine HN1.out.mono ?_)
  rintro e w' ⟨rfl, rfl⟩
  clear HN1
  go_wp2_with (go_at_call 18; refine HN2.out.mono ?_)
  rintro e w' ⟨rfl, rfl⟩
  clear HN2
  go_wp2
  go_region_held3 (fun wx => wx.cell? ⟨w.heap.size, 0, none⟩ = some (.int .u64 r) ∧ wx.cell? ⟨w.heap.size, 1, none⟩ = some (.int .i64 q) ∧ wx.cell? ⟨w.heap.size, 2, none⟩ = some (.pointer none) ∧ wx.cell? ⟨w.heap.size + 1, 0, none⟩ = some (.int .u64 0) ∧ wx.cell? ⟨w.heap.size + 1, 1, none⟩ = some (.int .i64 0) ∧ wx.cell? ⟨w.heap.size + 1, 2, none⟩ = some (.pointer none))
    (first | exact ZS0.out | exact ZS.kp ZS0.out hk6 | exact ZS.kp (ZS.kp ZS0.out hk6) hk7)
    (first | (go_at_call 13; refine (HA.out _).mono ?_; rintro e w6 ⟨rfl, hk60⟩; have hk6 : Kp (fun _ => False) W2 w6 := ⟨hk60.os, hk60.tape, hk60.output, hk60.size, hk60.block⟩; clear hk60) | (go_at_call 23; refine (HE.out _).mono ?_; rintro e w7 ⟨rfl, hk70⟩; have hk7 : Kp (fun _ => False) w6 w7 := ⟨hk70.os, hk70.tape, hk70.output, hk70.size, hk70.block⟩; clear hk70))
  have HL := hide ((HK.out.trans hk6 (fun _ _ f => f)).trans hk7 (fun _ _ f => f))
  clear hk6 hk7
  go_wp2
  go_ret
  exact ⟨rfl, HL.out⟩

set_option maxRecDepth 100000 in
theorem ns_any (d : Int) (w : World) (hd : -4611686018427387904 ≤ d ∧ d ≤ 4611686018427387904) :
    Calls Tryd.prog 11 #[.agg #[.int .u64 (d % 1000000000), .int .i64 (d / 1000000000), .pointer none]] w fun e w' => e = .returned (.int .i64 d) ∧ Kp (fun _ => False) w w' := by
  obtain ⟨r, hr⟩ : ∃ r, d % 1000000000 = r := ⟨_, rfl⟩
  obtain ⟨q, hq⟩ : ∃ q, d / 1000000000 = q := ⟨_, rfl⟩
  rw [hr, hq]
  have HS := hide (fun w => sub_any d r q w hd hr hq)
  clear hr hq
  go_enter Tryd.func11, Tryd.ntmps11
  go_wp2_with (go_at_call 16; refine (HS.out _).mono ?_)
  rintro e w3 ⟨rfl, k3⟩
  have HK := hide k3
  clear k3
  go_wp2
  go_ret
  exact ⟨rfl, ((Kp.refl (fun _ => False) w).alloc _).trans HK.out (fun _ _ f => f)⟩
end Go.Proofs.Qxb6616866aDoor
