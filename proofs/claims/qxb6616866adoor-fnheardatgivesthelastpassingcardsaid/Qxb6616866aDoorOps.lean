/-
  The table of passings: ZZb1NewChecks, heardAt, ZZb1Pass, ZZb1HeardAt.
-/
import Derived.Test.Qxb6616866aDoorMp
namespace Go.Proofs.Qxb6616866aDoor
open Go.RowKit
set_option linter.unusedVariables false

set_option maxRecDepth 100000 in
set_option maxHeartbeats 1000000 in
theorem heardAt_any (C M : Nat) (z : Addr) (L : List (Int × Int × Int)) (a p : Int) (w : World) (hC : w.cell? ⟨C, 34, none⟩ = some (.map (some M))) (hM : Mp z L M w) :
    Calls Tryd.prog 12 #[.pointer (some ⟨C, 0, none⟩), kv (some z) a p] w fun e w' => e = .returned (td ((look a p L).getD 0)) ∧ Kp (fun _ => False) w w' := by
  have lC : C < w.heap.size := World.block_lt_of_cell? _ _ hC
  obtain ⟨x, hx⟩ : ∃ x, 281470681743360 + a = x := ⟨_, rfl⟩
  have hkv : kv (some z) a p = .agg #[.int .u64 0, .int .u64 x, .pointer (some z), .int .u16 p] := by rw [← hx]; rfl
  obtain ⟨W2, hW2⟩ : ∃ y, (w.alloc (.cells #[.int .u64 0, .int .u64 x, .pointer (some z), .int .u16 p] 54)).alloc (.cells #[.int .u64 0, .int .i64 0, .pointer none] 44) = y := ⟨_, rfl⟩
  have r2 : W2.heap[w.heap.size]? = some (.cells #[.int .u64 0, .int .u64 x, .pointer (some z), .int .u16 p] 54 (0, 0)) := by rw [← hW2]; exact heap_alloc2_old w _ _
  have s2 : W2.heap[w.heap.size + 1]? = some (.cells #[.int .u64 0, .int .i64 0, .pointer none] 44 (0, 0)) := by rw [← hW2]; exact heap_alloc2_new w _ _
  have k2 : Kp (fun _ => False) w W2 := by rw [← hW2]; exact ((Kp.refl _ w).alloc _).alloc _
  have a0 : W2.cell? ⟨w.heap.size, 0, none⟩ = some (.int .u64 0) := (cell_of_row W2 _ 0 _ _ _ r2).trans rfl
  have a1 : W2.cell? ⟨w.heap.size, 1, none⟩ = some (.int .u64 x) := (cell_of_row W2 _ 1 _ _ _ r2).trans rfl
  have a2 : W2.cell? ⟨w.heap.size, 2, none⟩ = some (.pointer (some z)) := (cell_of_row W2 _ 2 _ _ _ r2).trans rfl
  have a3 : W2.cell? ⟨w.heap.size, 3, none⟩ = some (.int .u16 p) := (cell_of_row W2 _ 3 _ _ _ r2).trans rfl
  have f1 : ∀ j, W2.frozen? ⟨w.heap.size + 1, j, none⟩ = false := fun j => frozen_of_row W2 _ j _ _ s2
  have c34 := k2.cell hC (fun f => f)
  have b0 : W2.cell? ⟨w.heap.size + 1, 0, none⟩ = some (.int .u64 0) := (cell_of_row W2 _ 0 _ _ _ s2).trans rfl
  have b1 : W2.cell? ⟨w.heap.size + 1, 1, none⟩ = some (.int .i64 0) := (cell_of_row W2 _ 1 _ _ _ s2).trans rfl
  have b2 : W2.cell? ⟨w.heap.size + 1, 2, none⟩ = some (.pointer none) := (cell_of_row W2 _ 2 _ _ _ s2).trans rfl
  have HM := hide (hM.kp k2 (fun f => f))
  have HK := hide (And.intro s2 k2)
  have HX := hide hkv
  have ne1 : C ≠ w.heap.size + 1 := by omega
  have ne2 : w.heap.size ≠ w.heap.size + 1 := by omega
  rw [hkv]
  obtain ⟨r, q, hrq⟩ : ∃ r q, td ((look a p L).getD 0) = .agg #[.int .u64 r, .int .i64 q, .pointer none] := ⟨_, _, rfl⟩
  have HQ := hide hrq
  rw [hrq]
  have hrun : (Instr.lookup 33 (.map (some M)) (.agg #[.int .u64 0, .int .u64 x, .pointer (some z), .int .u16 p]) false).run Tryd.prog W2.drew = .ok (.agg #[.int .u64 r, .int .i64 q, .pointer none]) W2.drew := by
    rw [← hkv, ← hrq]
    exact lookup_run z L M a p W2.drew HM.out
  clear r2 s2 k2 hC hM hx hkv hrq
  go_enter Tryd.func12, Tryd.ntmps12
  go_wp2
  clear hW2
  go_region
  go_wp2
  obtain ⟨s2, k2⟩ := HK.out
  refine bodyPost_ret (v := .agg #[.int .u64 r, .int .i64 q, .pointer none]) (results_cell_row Tryd.results12 _ _ (w.heap.size + 1) 44 _ (0, 0) _ rfl (set3 s2) Tryd.underlying44 rfl (by kernel_rfl)) rfl ?_
  exact ⟨rfl, (((k2.setCell (p := ⟨w.heap.size + 1, 0, none⟩) (fun h => absurd h (by simp)) _).setCell (p := ⟨w.heap.size + 1, 1, none⟩) (fun h => absurd h (by simp)) _).setCell (p := ⟨w.heap.size + 1, 2, none⟩) (fun h => absurd h (by simp)) _).drew⟩

set_option maxRecDepth 100000 in
theorem zzHeardAt_any (C M : Nat) (z : Addr) (L : List (Int × Int × Int)) (a p d : Int) (w : World) (h0 : 0 ≤ a) (h1 : a ≤ 4294967295) (hz : w.cell? ⟨0, 0, none⟩ = some (.pointer (some z))) (hC : w.cell? ⟨C, 34, none⟩ = some (.map (some M))) (hM : Mp z L M w)
    (hd : (look a p L).getD 0 = d) (hb : -4611686018427387904 ≤ d ∧ d ≤ 4611686018427387904) :
    Calls Tryd.prog 8 #[.pointer (some ⟨C, 0, none⟩), .int .u32 a, .int .u16 p] w fun e w' => e = .returned (.int .i64 d) ∧ Kp (fun _ => False) w w' := by
  have H1 := hide (addr_any a p (some z) w h0 h1 hz)
  have H2 := hide (fun w' (k : Kp (fun _ => False) w w') => heardAt_any C M z L a p w' (k.cell hC (fun f => f)) (hM.kp k (fun f => f)))
  rw [hd] at H2
  have H3 := hide (fun w => (show Calls Tryd.prog 11 #[td d] w fun e w' => e = .returned (.int .i64 d) ∧ Kp (fun _ => False) w w' from ns_any d w hb))
  obtain ⟨x, hx⟩ : ∃ x, kv (some z) a p = x := ⟨_, rfl⟩
  obtain ⟨y, hy⟩ : ∃ y, td d = y := ⟨_, rfl⟩
  rw [hx] at H1 H2
  rw [hy] at H2 H3
  clear hx hy hC hM hz hd hb
  go_enter Tryd.func8, Tryd.ntmps8
  go_wp2_with (go_at_call 10; refine H1.out.mono ?_)
  rintro e w1 he k1
  subst he
  have K1 := hide k1
  clear k1 H1
  go_wp2_with (go_at_call 12; refine (H2.out _ K1.out).mono ?_)
  rintro e w2 ⟨he, k2⟩
  subst he
  have K2 := hide (K1.out.trans k2 (fun _ _ f => f))
  clear k2 H2 K1
  go_wp2_with (go_at_call 11; refine (H3.out _).mono ?_)
  rintro e w3 ⟨he, k3⟩
  subst he
  have K3 := hide (K2.out.trans k3 (fun _ _ f => f))
  clear k3 H3 K2
  go_wp2
  go_ret
  exact ⟨rfl, K3.out⟩

set_option maxRecDepth 100000 in
theorem newChecks_any (w : World) :
    Calls Tryd.prog 6 #[] w fun e w' => ∃ C M, e = .returned (.pointer (some ⟨C, 0, none⟩)) ∧ w'.cell? ⟨C, 34, none⟩ = some (.map (some M)) ∧ (∀ z, Mp z [] M w') ∧ w.heap.size ≤ M ∧ w.heap.size ≤ C ∧ C ≠ M ∧ Kp (fun _ => False) w w' := by
  have hmm := @run_makeMap Tryd.prog
  go_enter Tryd.func6, Tryd.ntmps6
  go_wp2
  obtain ⟨cs, hcs⟩ : ∃ cs : Array Value, #[.int .u8 0, .int .u8 0, .int .u8 0, .int .u8 0, .int .u8 0, .int .u8 0, .int .u8 0, .int .u8 0, .int .u8 0, .int .u8 0, .int .u8 0, .int .u8 0, .int .u8 0, .int .u8 0, .int .u8 0, .int .u8 0, .int .u8 0, .int .u8 0, .int .u8 0, .int .u8 0, .int .u8 0, .int .u8 0, .int .u8 0, .int .u8 0, .int .u8 0, .int .u8 0, .int .u8 0, .int .u8 0, .int .u8 0, .int .u8 0, .int .u8 0, .int .u8 0, .nilIface, .slice none 0 0, .map (some w.heap.size), .map none] = cs := ⟨_, rfl⟩
  have h34 : cs[34]? = some (.map (some w.heap.size)) := by rw [← hcs]; rfl
  rw [hcs]
  clear hcs
  go_ret
  have r1 := heap_alloc2_old w (.map #[] 0) (.cells cs 40)
  have r2 := heap_alloc2_new w (.map #[] 0) (.cells cs 40)
  refine ⟨_, _, rfl, (cell_of_row _ _ 34 _ _ _ r2).trans h34, fun z => ⟨#[], 0, r1, trivial⟩, Nat.le_refl _, Nat.le_succ _, by omega, ((Kp.refl _ w).alloc _).alloc _⟩

set_option maxRecDepth 100000 in
set_option maxHeartbeats 1000000 in
theorem pass_any (C M : Nat) (z : Addr) (L : List (Int × Int × Int)) (a p d : Int) (w : World) (h0 : 0 ≤ a) (h1 : a ≤ 4294967295) (hb : -4611686018427387904 ≤ d ∧ d ≤ 4611686018427387904) (hz : w.cell? ⟨0, 0, none⟩ = some (.pointer (some z))) (hC : w.cell? ⟨C, 34, none⟩ = some (.map (some M))) (hM : Mp z L M w) (hCM : C ≠ M) :
    Calls Tryd.prog 7 #[.pointer (some ⟨C, 0, none⟩), .int .u32 a, .int .u16 p, .int .i64 d] w fun e w' => e = .returned (.tuple #[]) ∧ Mp z (upd a p d L) M w' ∧ Kp (fun j => j = M) w w' := by
  have H1 := hide (fun w' (h : w'.cell? ⟨0, 0, none⟩ = some (.pointer (some z))) => addr_any a p (some z) w' h0 h1 h)
  have H2 := hide (fun w => (show Calls Tryd.prog 9 #[.int .i64 d] w fun e w' => e = .returned (td d) ∧ Kp (fun _ => False) w w' from at_any d w hb))
  have HU := hide (fun w' (k : Kp (fun _ => False) w w') => update_run z L M a p d w' (hM.kp k (fun f => f)))
  have HC := hide (fun w' (k : Kp (fun _ => False) w w') => k.cell hC (fun f => f))
  have HZ := hide hz
  obtain ⟨x, hx⟩ : ∃ x, kv (some z) a p = x := ⟨_, rfl⟩
  obtain ⟨y, hy⟩ : ∃ y, td d = y := ⟨_, rfl⟩
  rw [hx] at H1 HU
  rw [hy] at H2 HU
  have c34 := hC
  have k0 := hide (Kp.refl (fun _ => False) w)
  clear hx hy hM hz hb hC
  go_enter Tryd.func7, Tryd.ntmps7
  go_region_held3 (fun wx => wx.cell? ⟨C, 34, none⟩ = some (.map (some M)))
    (first | exact c34 | exact HC.out _ hk6 | exact HC.out _ hk7 | exact hk8.cell (HC.out _ hk7) hCM)
    (first | (go_at_call 10; refine Calls.mono (H1.out _ (by exact HZ.out)) ?_; intro e w6 h6; obtain ⟨he6, hk60⟩ := h6; subst he6; have hk6 : Kp (fun _ => False) w w6 := ⟨hk60.os, hk60.tape, hk60.output, hk60.size, hk60.block⟩; clear hk60) | (go_at_call 9; refine (H2.out _).mono ?_; intro e w7 h7; obtain ⟨he7, hk70⟩ := h7; subst he7; have hk7 : Kp (fun _ => False) w w7 := hk6.trans (b := w6) ⟨hk70.os, hk70.tape, hk70.output, hk70.size, hk70.block⟩ (fun _ _ f => f); clear hk70; obtain ⟨w8, hrun8, hM8, hk8⟩ := HU.out w7 hk7))
  go_end0
  exact ⟨rfl, hM8, (hk7.mono (fun _ _ f => f.elim)).trans hk8 (fun _ _ h => h)⟩
end Go.Proofs.Qxb6616866aDoor
