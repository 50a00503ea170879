/-
  THE CARD 'Rows.FnHeardAtGivesTheLastPassingCardSaid': from the law's contract ('law6') to the row, and to the tied card.
-/
import Derived.Test.Qxb6616866aDoorL6c
import Derived.Test.Qxb6616866aDoorCards
import Derived.Test.Qxb6616866aDoorTie
import Derived.WalkKit
import Derived.ProofKit
import Derived.OpenShut
import Derived.ChangeOld
import Derived.ChangeSlices
import Derived.ChangeSame
import Derived.Below
import Derived.FnData
import Derived.Lay
import Derived.SevenTiedAt
namespace Go.Proofs.Qxb6616866aDoor
open Go.ChangeShapes Go.WideShapes Go.ChangeAt Go.RowKit
set_option linter.unusedVariables false

theorem own : ownKnob Tryd.prog.godebug = none := by kernel_rfl
theorem laidOut : laidOutB Tryd.prog = true := by kernel_rfl
theorem gz4 : Tryd.prog.globalNamed "net/netip.z4" = some 0 := by kernel_rfl
theorem tz4 : (Tryd.prog.globals[0]?).map (·.type) = some 50 := by kernel_rfl

/-- What the listed variable gives the walk: its pointer is there. -/
theorem of_laid {W : World} (h : laidMetH Tryd.prog Rows.fnHeardAtGivesTheLastPassingRow.laid W) : ∃ z, W.cell? ⟨0, 0, none⟩ = some (.pointer (some z)) := by
  rw [MakeChecks.laidMetH_plain _ _ _ (by kernel_rfl)] at h
  obtain ⟨ps, ⟨g0, t0, cs0, f0, p0, q0, hg0, ht0, hv0, hd0, _⟩, _⟩ := h
  obtain rfl := Option.some.inj (gz4.symm.trans hg0)
  obtain rfl := Option.some.inj (tz4.symm.trans ht0)
  obtain ⟨y0, n, hx, hl, hy⟩ := trod_struct1 Tryd.underlying50 hd0
  have c48 : Tryd.prog.cellsOf 48 = 1 := by kernel_rfl
  have c50 : Tryd.prog.cellsOf 50 = 1 := by kernel_rfl
  obtain ⟨l0⟩ := cs0
  rw [c50] at hl
  match l0, hl with
  | [v], _ =>
    have hcell := World.var?_cell hg0 hv0 0
    simp at hcell
    rw [c48] at hy
    simp at hy
    simp only [Prod.mk.injEq, Rows.laid_net_netip_z4, DataW.agg.injEq, List.cons.injEq] at hx
    rcases DataW.trod_pointer Tryd.underlying48 hy with ⟨_, h⟩ | ⟨a, _, _, _, _, h, _⟩
    · rw [h] at hx
      simp at hx
    · simp at h
      exact ⟨a, by rw [hcell, h]⟩

set_option maxRecDepth 100000 in
set_option maxHeartbeats 1000000 in
theorem lifted (os : Os) (started : os.Started) (H : Type) (enc : TypeId × Value → H) :
    ReturnsInHanded {} Tryd.checked os 3 .any (fun w args => (Rows.fnHeardAtGivesTheLastPassingSpec.pre enc Tryd.prog Tryd.f3 [] false w args ∧ laidMetH Tryd.prog Rows.fnHeardAtGivesTheLastPassingRow.laid w) ∧ sizedMet enc Tryd.prog Tryd.f3 (OpenSpec.ofChange Rows.fnHeardAtGivesTheLastPassingSpec) false w args)
      (Rows.fnHeardAtGivesTheLastPassingSpec.post enc Tryd.prog Tryd.f3 false true false false) := by
  refine returnsInHanded_of_change_and (C := Tryd.checked) (X := fun w _ => laidMetH Tryd.prog Rows.fnHeardAtGivesTheLastPassingRow.laid w) (fun _ _ _ hh h => h.of_heap hh) own started (by kernel_rfl) Tryd.func3
    (ChangeSpec.witness_shaped (enc := enc) (C := Tryd.checked) (os := os) (X := fun w _ => laidMetH Tryd.prog Rows.fnHeardAtGivesTheLastPassingRow.laid w) false (World.laidAll Tryd.prog os Rows.fnHeardAtGivesTheLastPassingRow.laid) #[.slice none 0 0, .slice none 0 0, .slice none 0 0, .int .u32 0, .int .u16 0] 8 (World.laidAll_os _ _ _)
      (World.shaped_of_ZipB (by kernel_rfl) (by kernel_rfl)) (by kernel_rfl) (by kernel_rfl) (by kernel_rfl)
      (by rw [MakeChecks.laidMetH_plain _ _ _ (by kernel_rfl)]; exact laidMet_laidAll _ (by kernel_rfl) (by kernel_rfl))) ?_
  intro W base args ds gs before hval0 hW _ _ hL _
  have hval : ∀ (j : Nat) t v, Tryd.f3.params[j]? = some t → args[j]? = some v → Value.okWide Tryd.prog W .any base t v := hval0
  have hW' := hW
  obtain ⟨p, q, hA0, hV, rfl, _, _⟩ := hW
  have hA : DataW.TrodAll enc Tryd.prog W 0 (fun _ => true) true Tryd.f3.params.toList args.toList ds p := hA0
  rw [Tryd.params3] at hA hval
  obtain ⟨v0, vs0, d0, ds0, p0, q0, hargs, rfl, rfl, h0, r0⟩ := trodAll_cons hA
  obtain ⟨v1, vs1, d1, ds1, p1, q1, rfl, rfl, rfl, h1, r1⟩ := trodAll_cons r0
  obtain ⟨v2, vs2, d2, ds2, p2, q2, rfl, rfl, rfl, h2, r2⟩ := trodAll_cons r1
  obtain ⟨v3, vs3, d3, ds3, p3, q3, rfl, rfl, rfl, h3, r3⟩ := trodAll_cons r2
  obtain ⟨v4, vs4, d4, ds4, p4, q4, rfl, rfl, rfl, h4, r4⟩ := trodAll_cons r3
  obtain ⟨rfl, rfl, rfl⟩ := trodAll_nil r4
  obtain rfl : args = #[v0, v1, v2, v3, v4] := by cases args; simp_all
  obtain ⟨rfl, rfl⟩ := trodVars_none hV
  obtain ⟨z, hz⟩ := of_laid hL
  obtain ⟨a0, len0, cap0, rfl⟩ := okWide_slice Tryd.underlying22 (hval 0 22 v0 rfl rfl)
  have k0 := h0
  have lt0 : ∀ x ∈ p0, x.block < W.heap.size := by obtain ⟨m, hm⟩ := k0; exact DataW.trod_lt m _ _ _ hm
  obtain ⟨A, w0, z0, s0⟩ : ∃ A : Nat → Int, RowI W.heap.size W a0 len0 .u32 A ∧ (∀ k, k < len0 → 0 ≤ A k ∧ A k ≤ 4294967295) ∧ len0 ≤ 9223372036854775807 := by
    obtain ⟨fuel, hf⟩ := h0
    rcases open_ints Tryd.underlying22 Tryd.underlying25 (by kernel_rfl) hf with ⟨hcs, _⟩ | ⟨x, l, c, zs, hcs, _, hl, hm, hzl, _, hcell, hwz⟩
    · simp [Value.cells] at hcs
      obtain ⟨rfl, rfl, rfl⟩ := hcs
      exact ⟨fun _ => 0, .inl rfl, fun k hk => absurd hk (by omega), by omega⟩
    · simp [Value.cells] at hcs
      obtain ⟨rfl, rfl, rfl⟩ := hcs
      have hz' : zs.length = cap0 := by simpa using hzl
      have hb : ∀ k, k < len0 → 0 ≤ zs.getD k 0 ∧ zs.getD k 0 ≤ 4294967295 := fun k hk => by
        have hk' : k < zs.length := by omega
        have := hwz zs[k] (List.getElem_mem hk')
        simp [Lit.wf, IntKind.min, IntKind.max, IntKind.signed, IntKind.bits] at this
        have e : zs.getD k 0 = zs[k] := by simp [hk']
        rw [e]
        omega
      refine ⟨fun k => zs.getD k 0, ?_, hb, by unfold maxLen at hm; omega⟩
      by_cases hn : len0 = 0
      · exact .inl hn
      · refine .inr ⟨_, rfl, ?_, fun k hk => hcell k (by omega)⟩
        have := World.block_lt_of_cell? _ _ (hcell 0 (by omega))
        rwa [add_block] at this
  obtain ⟨a1, len1, cap1, rfl⟩ := okWide_slice Tryd.underlying23 (hval 1 23 v1 rfl rfl)
  have k1 := h1
  have lt1 : ∀ x ∈ p1, x.block < W.heap.size := by obtain ⟨m, hm⟩ := k1; exact DataW.trod_lt m _ _ _ hm
  obtain ⟨P, w1, s1⟩ : ∃ P : Nat → Int, RowI W.heap.size W a1 len1 .u16 P ∧ len1 ≤ 9223372036854775807 := by
    obtain ⟨fuel, hf⟩ := h1
    rcases open_ints Tryd.underlying23 Tryd.underlying26 (by kernel_rfl) hf with ⟨hcs, _⟩ | ⟨x, l, c, zs, hcs, _, hl, hm, hzl, _, hcell, hwz⟩
    · simp [Value.cells] at hcs
      obtain ⟨rfl, rfl, rfl⟩ := hcs
      exact ⟨fun _ => 0, .inl rfl, by omega⟩
    · simp [Value.cells] at hcs
      obtain ⟨rfl, rfl, rfl⟩ := hcs
      have hz' : zs.length = cap1 := by simpa using hzl
      refine ⟨fun k => zs.getD k 0, ?_, by unfold maxLen at hm; omega⟩
      by_cases hn : len1 = 0
      · exact .inl hn
      · refine .inr ⟨_, rfl, ?_, fun k hk => hcell k (by omega)⟩
        have := World.block_lt_of_cell? _ _ (hcell 0 (by omega))
        rwa [add_block] at this
  obtain ⟨a2, len2, cap2, rfl⟩ := okWide_slice Tryd.underlying24 (hval 2 24 v2 rfl rfl)
  have k2 := h2
  have lt2 : ∀ x ∈ p2, x.block < W.heap.size := by obtain ⟨m, hm⟩ := k2; exact DataW.trod_lt m _ _ _ hm
  obtain ⟨T, w2, s2⟩ : ∃ T : Nat → Int, RowI W.heap.size W a2 len2 .i64 T ∧ len2 ≤ 9223372036854775807 := by
    obtain ⟨fuel, hf⟩ := h2
    rcases open_ints Tryd.underlying24 Tryd.underlying2 (by kernel_rfl) hf with ⟨hcs, _⟩ | ⟨x, l, c, zs, hcs, _, hl, hm, hzl, _, hcell, hwz⟩
    · simp [Value.cells] at hcs
      obtain ⟨rfl, rfl, rfl⟩ := hcs
      exact ⟨fun _ => 0, .inl rfl, by omega⟩
    · simp [Value.cells] at hcs
      obtain ⟨rfl, rfl, rfl⟩ := hcs
      have hz' : zs.length = cap2 := by simpa using hzl
      refine ⟨fun k => zs.getD k 0, ?_, by unfold maxLen at hm; omega⟩
      by_cases hn : len2 = 0
      · exact .inl hn
      · refine .inr ⟨_, rfl, ?_, fun k hk => hcell k (by omega)⟩
        have := World.block_lt_of_cell? _ _ (hcell 0 (by omega))
        rwa [add_block] at this
  obtain ⟨a3, rfl, rfl, rfl, w3⟩ := open_int Tryd.underlying25 (hval 3 25 v3 rfl rfl) h3
  obtain ⟨a4, rfl, rfl, rfl, w4⟩ := open_int Tryd.underlying26 (hval 4 26 v4 rfl rfl) h4
  have hb : 0 ≤ a3 ∧ a3 ≤ 4294967295 := by
    have := w3
    simp [Lit.wf, IntKind.min, IntKind.max, IntKind.signed, IntKind.bits] at this
    omega
  clear hA0 hval0
  refine (law6 a0 a1 a2 len0 len1 len2 cap0 cap1 cap2 a3 a4 A P T z W s0 s1 s2 hb w0 w1 w2 z0 hz).mono fun e W' ⟨he, bel⟩ => ?_
  subst he
  exact ⟨_, rfl, _, _, _, [], _, [], hW', trodAll_mk1 (shut_bool Tryd.underlying4 _), (trodAll_cons_mk (Below.trod laidOut (by kernel_rfl) (of_decide_eq_true (by kernel_rfl)) k0 bel lt0) (trodAll_cons_mk (Below.trod laidOut (by kernel_rfl) (of_decide_eq_true (by kernel_rfl)) k1 bel lt1) (trodAll_cons_mk (Below.trod laidOut (by kernel_rfl) (of_decide_eq_true (by kernel_rfl)) k2 bel lt2) (trodAll_cons_mk (shut_int Tryd.underlying25 w3) (trodAll_cons_mk (shut_int Tryd.underlying26 w4) trodAll_mk0))))), rfl, bel.frame _, fun h => by cases h⟩

theorem row_holds : Rows.FnHeardAtGivesTheLastPassingSaid :=
  OpenClaim.holds_of_wide 3 Tryd.f3 rfl rfl rfl rfl rfl rfl rfl ⟨rfl, rfl, rfl, rfl, rfl⟩ rfl rfl rfl rfl rfl (by kernel_rfl) Tryd.func3 (by kernel_rfl)
    (of_decide_eq_true (by kernel_rfl)) (by unfold Func.isWrapper; first | (rw [if_pos (by decide +kernel)]; kernel_rfl) | (rw [if_neg (by decide +kernel)]; exact ⟨rfl, rfl⟩))
    (fun os started H enc _ => lifted os started H enc)

/-- The card. -/
theorem proved : Rows.FnHeardAtGivesTheLastPassingCardSaid :=
  Claim7.holds_tied_plain_at .later [] [.called] true (true, "e1b69291c1993863a2ca6d5005e653b9495382df1e446ffc6e2fb0b37f83eaf6") false row_holds (fun _ h => by cases h) (by kernel_rfl) (fun _ h => by cases h) fnHeardAtGivesTheLastPassing_row_tie rfl ⟨rfl, rfl⟩ (by kernel_rfl) rfl
    (fun f fn hf hfn => by
      obtain rfl : f = 3 := Option.some.inj ((show Tryd.prog.funcNamed Rows.fnHeardAtGivesTheLastPassingRow.func = some 3 by kernel_rfl).symm.trans hf) |>.symm
      obtain rfl : fn = Tryd.f3 := (Option.some.inj (Tryd.func3.symm.trans hfn)).symm
      exact ⟨by kernel_rfl, fun j t ht => by
        rw [Tryd.params3] at ht
        have hm : t ∈ [22, 23, 24, 25, 26] := by simpa using Array.mem_of_getElem? ht
        have hall : ([22, 23, 24, 25, 26].all fun u => !Tryd.prog.wantsStandIn u) = true := by kernel_rfl
        exact (show Tryd.prog.wantsStandIn t = false by simpa using List.all_eq_true.1 hall t hm)⟩)
    (by kernel_rfl)
end Go.Proofs.Qxb6616866aDoor
