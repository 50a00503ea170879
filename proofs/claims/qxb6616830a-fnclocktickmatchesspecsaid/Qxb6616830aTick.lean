/-
  Clone, thaw, tickAt, tick, ZZtick.
-/
import Derived.Test.Qxb6616830aSearch
namespace Go.Proofs.Qxb6616830a
open Go.RowKit
set_option linter.unusedVariables false

theorem ent_news {w : World} {g n : Nat} {nm : Nat → ByteArray} {cn : Nat → Int} (h : Ent w g n nm cn) : ∀ j u, (rowE nm cn n)[j]? = some u → w.cell? ((⟨g, 0, none⟩ : Addr).add j) = some u := by
  intro j u hu
  have hj : j < n * 2 := by have := (List.getElem?_eq_some_iff.1 hu).1; rwa [rowE_length] at this
  have hadd : (⟨g, 0, none⟩ : Addr).add j = ⟨g, j, none⟩ := by unfold Addr.add; split <;> simp_all
  rw [hadd, ← hu]
  obtain ⟨k, hk⟩ : ∃ k, j = k * 2 ∨ j = k * 2 + 1 := ⟨j / 2, by omega⟩
  rcases hk with rfl | rfl
  · rw [h.name k (by omega), (rowE_at nm cn n k (by omega)).1]
  · rw [h.count k (by omega), (rowE_at nm cn n k (by omega)).2]
theorem rowE_one (nm : Nat → ByteArray) (cn : Nat → Int) (n : Nat) : ∀ u ∈ rowE nm cn n, u.oneCell' = true := by
  induction n with
  | zero => intro u hu; simp [rowE] at hu
  | succ n ih =>
    intro u hu
    simp only [rowE, List.mem_append, List.mem_cons, List.not_mem_nil, or_false] at hu
    rcases hu with h | rfl | rfl
    · exact ih u h
    · rfl
    · rfl
theorem kp_grown {w w' : World} (h : w.grownBy w' none) : Kp (fun _ => False) w w' := ⟨h.os, h.tape, h.output, h.size, fun k hk _ => h.block k hk (by simp)⟩
theorem ent_own {w : World} {g n m cap : Nat} {nm : Nat → ByteArray} {cn : Nat → Int} (h : w.ownsRow 0 40 2 (.slice (some ⟨g, 0, none⟩) m cap) m (rowE nm cn n)) : Ent w g n nm cn := by
  have hl := h.1
  rw [rowE_length] at hl
  rcases h.2 with ⟨h0, _⟩ | ⟨g', cap', cur, hv, _, hg, h1, _, h2, h3⟩
  · cases h0
  · simp only [Value.slice.injEq, Option.some.injEq, Addr.mk.injEq, and_true, true_and] at hv
    obtain ⟨rfl, _⟩ := hv
    refine Ent.of_row (X := cur.toList) (by simpa using hg) (fun j hj => ?_)
    rw [← h3, List.getElem?_take, if_pos (by omega)]

/-- What Clone's region reads and writes. -/
def CS (B0 B1 : Nat) (v : Value) (t : Int) (wx : World) : Prop :=
  wx.cell? ⟨B0, 0, none⟩ = some v ∧ wx.cell? ⟨B0, 1, none⟩ = some (.int .u32 t) ∧ (∀ j, wx.frozen? ⟨B1, j, none⟩ = false) ∧ (∀ j, j < 3 → wx.cell? ⟨B1, j, none⟩ = some (cv wx B1 j))
theorem CS.kp {B0 B1 : Nat} {v : Value} {t : Int} {w w' : World} (h : CS B0 B1 v t w) (hk : Kp (fun _ => False) w w') : CS B0 B1 v t w' := by
  refine ⟨hk.cell h.1 (fun f => f), hk.cell h.2.1 (fun f => f), fun j => ?_, fun j hj => ?_⟩
  · exact (World.frozen?_of_block (w := w) (hk.block B1 (World.block_lt_of_cell? _ _ (h.2.2.2 0 (by omega))) (fun f => f))).trans (h.2.2.1 j)
  · have e := hk.cell (h.2.2.2 j hj) (fun f => f)
    simp only [cv, e]
    rfl
theorem CS.set {B0 B1 : Nat} {v : Value} {t : Int} {w : World} (hne : B0 ≠ B1) (i : Nat) (u : Value) (h : CS B0 B1 v t w) : CS B0 B1 v t (w.setCell ⟨B1, i, none⟩ u) := by
  have hk : Kp (fun j => j = B1) w (w.setCell ⟨B1, i, none⟩ u) := (Kp.refl (fun j => j = B1) w).setCell (fun _ => rfl) _
  exact ⟨hk.cell h.1 hne, hk.cell h.2.1 hne, fun j => (World.frozen?_setCell _ _ _ _).trans (h.2.2.1 j), cvSet i u h.2.2.2⟩

/-- What Clone hands back. -/
def ClPost (n : Nat) (nm : Nat → ByteArray) (cn : Nat → Int) (t : Int) (w : World) (e : Ending) (w' : World) : Prop :=
  ∃ g c, e = .returned (.agg #[.slice (some ⟨g, 0, none⟩) n c, .int .u32 t, .bool false]) ∧ w.heap.size ≤ g ∧ Ent w' g n nm cn ∧ Kp (fun _ => False) w w'

theorem clone_step {ops : Array Oper} {o : Oper} {a : Act} {K : Act → World → Prop} {Q : Exit → Act → World → Prop} {E : Prop} (W : World) (g n c : Nat) (nm : Nat → ByteArray) (cn : Nat → Int)
    (hgd : o.guard = none) (ho : o.op = .call { callee := .builtin .append, args := #[.const (.slice none 0 0), .tmp 4], argTypes := #[29, 29] })
    (hx : a.eval (.tmp 4) = .slice (some ⟨g, 0, none⟩) n c) (hnews : ∀ j u, (rowE nm cn n)[j]? = some u → W.cell? ((⟨g, 0, none⟩ : Addr).add j) = some u) (h0 : 0 < n) (hn : n ≤ 1048577)
    (h : ∀ g2 cap w1, Ent w1 g2 n nm cn → Kp (fun _ => False) W w1 → W.heap.size ≤ g2 → K (a.put o.dst (.slice (some ⟨g2, 0, none⟩) n cap)) w1) :
    if Region.wanted o (yielded ops a.tmps) = true then Oper.wp Try.prog o a W K Q else E := by
  obtain ⟨ti, hi0, hti⟩ := Option.map_eq_some_iff.1 info40
  simp only [Prod.mk.injEq] at hti
  refine step_append_lies W hgd (.const (.slice none 0 0)) (.tmp 4) 29 ho 0 40 ti (.agg #[.string ⟨#[]⟩, .int .u64 0]) 2 24 Try.underlying29 hi0 hti.1 hti.2.1 hti.2.2 rfl (by decide) (.slice none 0 0) 0 [] rfl (World.ownsRow_nil W 0 40 2) ⟨g, 0, none⟩ n c (rowE nm cn n) hx (rowE_length nm cn n) hnews (rowE_one nm cn n) h0 (by unfold maxLen; omega) (by omega) (Nat.zero_le _) W.heap.size rfl ?_
  intro g2 cap w1 hown hgr hat hlt
  rw [Nat.zero_add] at hown ⊢
  rw [List.nil_append] at hown
  refine h g2 cap w1 (ent_own hown) (kp_grown hgr) ?_
  rcases hat with h | h
  · simp [Value.ownBlock] at h
  · omega

set_option maxRecDepth 100000 in
set_option maxHeartbeats 4000000 in
theorem clone_any (g n c : Nat) (nm : Nat → ByteArray) (cn : Nat → Int) (t : Int) (fz : Bool) (w : World) (h0 : 0 < n) (hn : n ≤ 1048577) (hE : Ent w g n nm cn) :
    Calls Try.prog 24 #[.agg #[.slice (some ⟨g, 0, none⟩) n c, .int .u32 t, .bool fz]] w (ClPost n nm cn t w) := by
  obtain ⟨ti, hi0, hti⟩ := Option.map_eq_some_iff.1 info40
  simp only [Prod.mk.injEq] at hti
  have HT := hide (And.intro hi0 hti)
  obtain ⟨W, hW⟩ : ∃ W, (w.alloc (.cells #[.slice (some ⟨g, 0, none⟩) n c, .int .u32 t, .bool fz] 31)).alloc (.cells #[.slice none 0 0, .int .u32 0, .bool false] 31) = W := ⟨_, rfl⟩
  have hb0 : W.heap[w.heap.size]? = some (.cells #[.slice (some ⟨g, 0, none⟩) n c, .int .u32 t, .bool fz] 31 (0, 0)) := by rw [← hW]; exact heap_alloc2_old w _ _
  have hb1 : W.heap[w.heap.size + 1]? = some (.cells #[.slice none 0 0, .int .u32 0, .bool false] 31 (0, 0)) := by rw [← hW]; exact heap_alloc2_new w _ _
  have hkW : Kp (fun _ => False) w W := by rw [← hW]; exact ((Kp.refl _ w).alloc _).alloc _
  have hsz : W.heap.size = w.heap.size + 2 := by rw [← hW]; simp
  have s0 : CS w.heap.size (w.heap.size + 1) (.slice (some ⟨g, 0, none⟩) n c) t W := by
    refine ⟨(cell_of_row W _ 0 _ _ _ hb0).trans rfl, (cell_of_row W _ 1 _ _ _ hb0).trans rfl, fun j => frozen_of_row W _ j _ _ hb1, ?_⟩
    exact cvAll (X := [.slice none 0 0, .int .u32 0, .bool false]) hb1
  have HS0 := hide s0
  have HB1 := hide hb1
  have HKW := hide hkW
  have HN := hide (ent_news (hE.kp hkW (fun f => f)))
  have HWE := hide (show w.heap.size + 2 = W.heap.size from hsz.symm)
  have ne1 : w.heap.size ≠ w.heap.size + 1 := by omega
  clear hti hi0 s0 hb0 hb1 hkW hE hsz
  have q63 : 0 + n ≤ maxLen := by unfold maxLen; omega
  have qby : (0 + n) * 24 ≤ 140737488355328 := by omega
  go_enter Try.func24, Try.ntmps24
  go_wp2
  clear hW
  go_region_held3 (fun wx => wx.cell? ⟨w.heap.size, 0, none⟩ = some (.slice (some ⟨g, 0, none⟩) n c) ∧ wx.cell? ⟨w.heap.size, 1, none⟩ = some (.int .u32 t) ∧ (∀ j, wx.frozen? ⟨w.heap.size + 1, j, none⟩ = false) ∧ (∀ j, j < 3 → wx.cell? ⟨w.heap.size + 1, j, none⟩ = some (cv wx (w.heap.size + 1) j)))
    (first | exact HS0.out | exact HS1.out | exact CS.set ne1 _ _ (CS.set ne1 _ _ (CS.set ne1 _ _ HS1.out)))
    (first | (refine clone_step W.drew g n c nm cn rfl rfl rfl HN.out h0 hn ?_; intro g2 cap w1 hown hgr hat; have HS1 := hide (HS0.out.kp (Kp.trans ((Kp.refl (fun _ => False) W).drew) hgr (fun _ _ f => f))); have HOW := hide hown; have HGR := hide hgr; have HAT := hide hat; clear hown hgr hat))
  go_wp2
  have hb1 := (HGR.out.row HB1.out (fun f => f))
  have hfin := set3 (y0 := .slice (some ⟨g2, 0, none⟩) n cap) (y1 := .int .u32 t) (y2 := .bool false) hb1
  refine bodyPost_ret (v := .agg #[.slice (some ⟨g2, 0, none⟩) n cap, .int .u32 t, .bool false]) (results_cell_row Try.results24 _ _ (w.heap.size + 1) 31 _ (0, 0) _ rfl hfin Try.underlying31 rfl (by kernel_rfl)) rfl ?_
  have hk3 : Kp (fun j => j = w.heap.size + 1) w1 (((w1.setCell ⟨w.heap.size + 1, 0, none⟩ (.slice (some ⟨g2, 0, none⟩) n cap)).setCell ⟨w.heap.size + 1, 1, none⟩ (.int .u32 t)).setCell ⟨w.heap.size + 1, 2, none⟩ (.bool false)) := (((Kp.refl (fun j => j = w.heap.size + 1) w1).setCell (p := ⟨w.heap.size + 1, 0, none⟩) (fun _ => rfl) _).setCell (p := ⟨w.heap.size + 1, 1, none⟩) (fun _ => rfl) _).setCell (p := ⟨w.heap.size + 1, 2, none⟩) (fun _ => rfl) _
  have hat := HAT.out
  have hwe := HWE.out
  exact ⟨g2, cap, rfl, by simp at hat; omega, HOW.out.kp hk3 (by simp at hat; omega), (HKW.out.drew.trans (HGR.out) (fun _ _ f => f)).trans hk3 (fun i hi e => by omega)⟩

/-- What thaw leaves: the clock's entries, anew where it was frozen. -/
def ThPost (B g n : Nat) (nm : Nat → ByteArray) (cn : Nat → Int) (t : Int) (fz : Bool) (w : World) (e : Ending) (w' : World) : Prop :=
  ∃ g' c', e = .returned (.tuple #[]) ∧ w'.heap[B]? = some (.cells #[.slice (some ⟨g', 0, none⟩) n c', .int .u32 t, .bool false] 31 (0, 0)) ∧ Ent w' g' n nm cn ∧ ((fz = false ∧ g' = g) ∨ (fz = true ∧ w.heap.size ≤ g')) ∧ Kp (fun j => j = B) w w'

set_option maxRecDepth 100000 in
set_option maxHeartbeats 4000000 in
theorem thaw_any (B g n c : Nat) (nm : Nat → ByteArray) (cn : Nat → Int) (t : Int) (fz : Bool) (w : World) (h0 : 0 < n) (hn : n ≤ 1048577) (hE : Ent w g n nm cn) (hB : w.heap[B]? = some (.cells #[.slice (some ⟨g, 0, none⟩) n c, .int .u32 t, .bool fz] 31 (0, 0))) :
    Calls Try.prog 23 #[.pointer (some ⟨B, 0, none⟩)] w (ThPost B g n nm cn t fz w) := by
  have c0 : w.cell? ⟨B, 0, none⟩ = some (.slice (some ⟨g, 0, none⟩) n c) := (cell_of_row w _ 0 _ _ _ hB).trans rfl
  have c1 : w.cell? ⟨B, 1, none⟩ = some (.int .u32 t) := (cell_of_row w _ 1 _ _ _ hB).trans rfl
  have c2 : w.cell? ⟨B, 2, none⟩ = some (.bool fz) := (cell_of_row w _ 2 _ _ _ hB).trans rfl
  have HE := hide hE
  have HB := hide hB
  clear hE hB
  cases fz with
  | false =>
    go_enter Try.func23, Try.ntmps23
    go_wp2
    go_end0
    exact ⟨g, c, rfl, HB.out, HE.out, .inl ⟨rfl, rfl⟩, Kp.refl _ _⟩
  | true =>
    go_enter Try.func23, Try.ntmps23
    go_wp2_with (go_at_call 24; refine (clone_any g n c nm cn t true w h0 hn HE.out).mono ?_)
    rintro e w1 ⟨g2, c2', rfl, hg2, hE2, hk⟩
    have hb := hk.row HB.out (fun f => f)
    have d0 : w1.cell? ⟨B, 0, none⟩ = some (.slice (some ⟨g, 0, none⟩) n c) := (cell_of_row w1 _ 0 _ _ _ hb).trans rfl
    have d1 : w1.cell? ⟨B, 1, none⟩ = some (.int .u32 t) := (cell_of_row w1 _ 1 _ _ _ hb).trans rfl
    have d2 : w1.cell? ⟨B, 2, none⟩ = some (.bool true) := (cell_of_row w1 _ 2 _ _ _ hb).trans rfl
    have df : ∀ j, w1.frozen? ⟨B, j, none⟩ = false := fun j => frozen_of_row w1 _ j _ _ hb
    have lB : B < w.heap.size := lt_of_block HB.out
    have HBB := hide hb
    have HE2 := hide hE2
    have HK := hide hk
    clear hb hE2 hk c0 c1 c2
    go_wp2
    go_end0
    have hfin := set3 (y0 := .slice (some ⟨g2, 0, none⟩) n c2') (y1 := .int .u32 t) (y2 := .bool false) HBB.out
    have hk3 : Kp (fun j => j = B) w1 (((w1.setCell ⟨B, 0, none⟩ (.slice (some ⟨g2, 0, none⟩) n c2')).setCell ⟨B, 1, none⟩ (.int .u32 t)).setCell ⟨B, 2, none⟩ (.bool false)) := (((Kp.refl (fun j => j = B) w1).setCell (p := ⟨B, 0, none⟩) (fun _ => rfl) _).setCell (p := ⟨B, 1, none⟩) (fun _ => rfl) _).setCell (p := ⟨B, 2, none⟩) (fun _ => rfl) _
    exact ⟨g2, c2', rfl, hfin, HE2.out.kp hk3 (by omega), .inr ⟨rfl, hg2⟩, (HK.out.mono (fun _ _ f => f.elim)).trans hk3 (fun _ _ h => h)⟩
end Go.Proofs.Qxb6616830a
