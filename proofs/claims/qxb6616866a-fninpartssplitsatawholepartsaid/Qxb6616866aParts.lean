/-
  The functions on the road of 'FnInPartsSplitsAtAWholePart', by their contracts.
-/
import Derived.Test.Qxb6616866aRows
import Derived.WalkKit
import Derived.WalkSpells
import Derived.WalkLawsBesides
import Derived.OpenShut
import Derived.Laws.CopyOwn
import Derived.Deep.QuietTactic
import Derived.BigQuiet
import Derived.Deep.RegionHeld3
import Derived.Deep.AppendLies
namespace Go.Proofs.Qxb6616866a
open Go.RowKit

theorem hide {p : Prop} (h : p) : Hid p := h

/-- A row of n bytes of which nothing is told. -/
def U8Row (w : World) (g n : Nat) : Prop := ∃ X : List Value, w.heap[g]? = some (.cells X.toArray 5 (0, 0)) ∧ X.length = n ∧ ∀ v ∈ X, ∃ z, v = .int .u8 z
theorem U8Row.at {w : World} {g n : Nat} (h : U8Row w g n) (k : Nat) (hk : k < n) : ∃ z, w.cell? ⟨g, k, none⟩ = some (.int .u8 z) := by
  obtain ⟨X, h1, h2, h3⟩ := h
  have hk' : k < X.length := by omega
  obtain ⟨z, hz⟩ := h3 X[k] (List.getElem_mem hk')
  exact ⟨z, by rw [cell_of_row w g k _ _ _ h1, ← hz]; simp [hk']⟩
theorem U8Row.free {w : World} {g n : Nat} (h : U8Row w g n) (k : Nat) : w.frozen? ⟨g, k, none⟩ = false := by
  obtain ⟨X, h1, h2, h3⟩ := h
  exact frozen_of_row _ _ k _ _ h1
theorem U8Row.lt {w : World} {g n : Nat} (h : U8Row w g n) : g < w.heap.size := by
  obtain ⟨X, h1, h2, h3⟩ := h
  exact lt_of_block h1
theorem U8Row.set {w : World} {g n : Nat} (h : U8Row w g n) (k : Nat) (z : Int) : U8Row (w.setCell ⟨g, k, none⟩ (.int .u8 z)) g n := by
  obtain ⟨X, h1, h2, h3⟩ := h
  refine ⟨X.set k (.int .u8 z), ?_, by simpa using h2, ?_⟩
  · rw [heap_setCell_same _ _ _ _ _ _ h1]; simp
  · intro v hv
    rcases List.mem_or_eq_of_mem_set hv with h | h
    · exact h3 v h
    · exact ⟨z, h⟩
theorem U8Row.below {w w' : World} {g n B : Nat} (h : U8Row w g n) (hb : Below B w w') (hg : g < B) : U8Row w' g n := by
  obtain ⟨X, h1, h2, h3⟩ := h
  exact ⟨X, (hb.block g hg).trans h1, h2, h3⟩

theorem bytes_any (a : Option Addr) (n c : Nat) (k : Int) (w : World) (hn : n ≤ 9223372036854775807) :
    Calls Try.prog 5 #[.slice a n c, .int .i64 k] w fun e w' => e = .returned (.bool (decide (n ≤ 1048576))) ∧ w' = w := by
  by_cases h : n ≤ 1048576
  · have hd : decide (n ≤ 1048576) = true := decide_eq_true h
    rw [hd]
    go_enter Try.func5, Try.ntmps5
    go_wp2
    go_ret
    exact ⟨rfl, rfl⟩
  · have hd : decide (n ≤ 1048576) = false := decide_eq_false h
    rw [hd]
    go_enter Try.func5, Try.ntmps5
    go_wp2
    go_ret
    exact ⟨rfl, rfl⟩

theorem info5 : (Try.prog.info? 5).map (fun i => (i.zero, i.size, i.bytes)) = some (some (.int .u8 0), 1, 1) := by kernel_rfl
theorem info3 : (Try.prog.info? 3).map (fun i => (i.zero, i.size, i.bytes)) = some (some (.int .i64 0), 1, 8) := by kernel_rfl
theorem info22 : (Try.prog.info? 22).map (fun i => (i.zero, i.size, i.bytes)) = some (some (.slice none 0 0), 1, 24) := by kernel_rfl
theorem make5 (n : Nat) (hn : n ≤ 1048576) : ∃ Z : List Value, Z.length = n ∧ (∀ v ∈ Z, ∃ z, v = .int .u8 z) ∧ ∀ w : World, (Instr.makeSlice 22 (.int .i64 n) (.int .i64 n)).run Try.prog w = .ok (.slice (some ⟨w.heap.size, 0, none⟩) n n) (w.alloc (.cells Z.toArray 5)) := by
  obtain ⟨ti, hi0, hti⟩ := Option.map_eq_some_iff.1 info5
  simp only [Prod.mk.injEq] at hti
  obtain ⟨hz0, hz1, hz2⟩ := hti
  refine ⟨List.replicate n (.int .u8 0), by simp, fun v hv => ⟨0, (List.mem_replicate.1 hv).2⟩, fun w => ?_⟩
  have h := run_make (P := Try.prog) w 22 5 ti _ Try.underlying22 hi0 hz0 .i64 .i64 n n (by omega) (by omega) (by rw [hz2]; omega) (by omega)
  rw [h, hz1]
  congr 4
  apply Array.ext'
  simp [Value.cells, madeCells, List.eq_replicate_iff, Nat.mod_one]

set_option maxRecDepth 100000 in
set_option maxHeartbeats 1000000 in
theorem clone_any (x : Addr) (n cap : Nat) (w : World) (hn : n ≤ 1048576) (hc : ∀ k, k < n → ∃ z, w.cell? (x.add k) = some (.int .u8 z)) (hx : x.block < w.heap.size) :
    Calls Try.prog 6 #[.slice (some x) n cap] w fun e w' => e = .returned (.slice (some ⟨w.heap.size, 0, none⟩) n n) ∧ U8Row w' w.heap.size n ∧ Below w.heap.size w w' := by
  obtain ⟨Z, hZ, hZ2, hmk⟩ := make5 n hn
  have HC := hide hc
  have HZ2 := hide hZ2
  have HZ := hide hZ
  clear hc hZ2 hZ
  have hmw := hmk w
  have hnil : ∀ W, (binOp .eql 22 (.slice (some x) n cap) (.slice none 0 0)).run Try.prog W = .ok (.bool false) W := fun W => Lib.run_eql_slice_nil W _ _ _ _ _ _ _ Try.underlying22
  clear hmk
  go_enter Try.func6, Try.ntmps6
  go_wp2
  go_loopw [4] (fun t wr => ∃ k : Nat, k ≤ n ∧ t = .int .i64 k ∧ U8Row wr w.heap.size n ∧ Below w.heap.size w wr) (fun t _ => n - (intOf t).toNat)
  case atStart => exact ⟨0, by omega, rfl, ⟨Z, heap_alloc_new w _, HZ.out, HZ2.out⟩, (Below.refl _ w).alloc (Nat.le_refl _) _⟩
  case round =>
    obtain ⟨k, hk, rfl, hU, hB⟩ := hrel
    by_cases hlt : k < n
    · obtain ⟨z, hz⟩ := HC.out k hlt
      obtain ⟨z', hz'⟩ := hU.at k hlt
      have hfr := hU.free k
      have hzr : wr.cell? (x.add k) = some (.int .u8 z) := (hB.cell (p := x.add k) (by rw [show (x.add k).block = x.block from by unfold Addr.add; split <;> rfl]; exact hx)).trans hz
      have HU := hide (hU.set k z)
      have HB := hide (hB.setCell (p := ⟨w.heap.size, k, none⟩) (Nat.le_refl _) (.int .u8 z))
      have i1 : (k : Int) < (n : Int) := by omega
      clear hU hB hz
      go_wp2
      go_roundw
      case rel => exact ⟨k + 1, by omega, by go_num, HU.out, HB.out⟩
      case measure => simp [intOf]; omega
    · obtain rfl : k = n := by omega
      have HU := hide hU
      have HB := hide hB
      clear hU hB
      go_wp2
      go_ret
      exact ⟨rfl, HU.out, HB.out⟩

set_option maxRecDepth 100000 in
set_option maxHeartbeats 1000000 in
theorem same_any (g off n c1 c2 : Nat) (w : World) (hn : n ≤ 1048576) (hc : ∀ k, k < n → ∃ z, w.cell? ⟨g, off + k, none⟩ = some (.int .u8 z)) :
    Calls Try.prog 8 #[.slice (some ⟨g, off, none⟩) n c1, .slice (some ⟨g, off, none⟩) n c2] w fun e w' => e = .returned (.bool true) ∧ ∃ m, w' = w.drewN m := by
  have HC := hide hc
  clear hc
  go_enter Try.func8, Try.ntmps8
  go_wp2
  go_loopw [5] (fun t wr => ∃ k : Nat, k ≤ n ∧ t = .int .i64 k ∧ ∃ m, wr = w.drewN m) (fun t _ => n - (intOf t).toNat)
  case atStart => exact ⟨0, by omega, rfl, 0, rfl⟩
  case round =>
    obtain ⟨k, hk, rfl, m, rfl⟩ := hrel
    by_cases hlt : k < n
    · obtain ⟨z, hz⟩ := HC.out k hlt
      have i1 : (k : Int) < (n : Int) := by omega
      go_wp2
      go_quiet (fail)
      go_wp2
      go_roundw
      case rel => exact ⟨k + 1, by omega, by go_num, _, by first | rfl | rw [World.drewN_drewN]⟩
      case measure => simp [intOf]; omega
    · obtain rfl : k = n := by omega
      go_wp2
      go_ret
      exact ⟨rfl, m, rfl⟩

/-- What the two captured variables hold: q first pieces and q parts, in rows of their own. -/
def Gat (N : Nat) (w : World) (B1 B2 q : Nat) (F G : List Value) : Prop := N ≤ B1 ∧ N ≤ B2 ∧ ∃ v1 v2, w.heap[B1]? = some (.cells #[v1] 25 (0, 0)) ∧ w.heap[B2]? = some (.cells #[v2] 26 (0, 0)) ∧ w.ownsRow N 3 1 v1 q F ∧ w.ownsRow N 22 1 v2 q G

theorem row_type {w : World} {N : Nat} {e t : TypeId} {v : Value} {q : Nat} {F : List Value} {b : Nat} {cs : Array Value} (h : w.ownsRow N e 1 v q F) (hb : w.heap[b]? = some (.cells cs t (0, 0))) (hne : e ≠ t) : v.ownBlock ≠ some b := by
  rcases h.2 with ⟨rfl, _⟩ | ⟨g, cap, cur, rfl, _, hg, _⟩
  · simp [Value.ownBlock]
  · simp only [Value.ownBlock]
    intro e'
    obtain rfl : g = b := by simpa using e'
    rw [hg] at hb
    simp only [Option.some.injEq, Obj.cells.injEq] at hb
    exact hne hb.2.1
theorem row_base {w : World} {N : Nat} {e : TypeId} {v : Value} {q : Nat} {F : List Value} (h : w.ownsRow N e 1 v q F) : ∀ k, v.ownBlock = some k → N ≤ k := by
  rcases h.2 with ⟨rfl, _⟩ | ⟨g, cap, cur, rfl, hN, hg, _⟩
  · intro k hk; simp [Value.ownBlock] at hk
  · intro k hk
    obtain rfl : g = k := by simpa [Value.ownBlock] using hk
    exact hN
theorem row_apart {w : World} {N : Nat} {e t : TypeId} {v u : Value} {q r : Nat} {F G : List Value} (h : w.ownsRow N e 1 v q F) (h2 : w.ownsRow N t 1 u r G) (hne : e ≠ t) : ∀ k, u.ownBlock = some k → v.ownBlock ≠ some k := by
  rcases h2.2 with ⟨rfl, _⟩ | ⟨g, cap, cur, rfl, hN, hg, _⟩
  · intro k hk; simp [Value.ownBlock] at hk
  · intro k hk
    obtain rfl : g = k := by simpa [Value.ownBlock] using hk
    exact row_type h hg hne
theorem row_grown {w w' : World} {N : Nat} {e : TypeId} {v : Value} {q : Nat} {F : List Value} {r : Option Nat} (h : w.ownsRow N e 1 v q F) (hg : w.grownBy w' r) (hne : ∀ k, v.ownBlock = some k → some k ≠ r) : w'.ownsRow N e 1 v q F := by
  refine ⟨h.1, ?_⟩
  rcases h.2 with hn | ⟨g, cap, cur, rfl, hb, hc, rest⟩
  · exact .inl hn
  · exact .inr ⟨g, cap, cur, rfl, hb, (hg.block g (lt_of_block hc) (hne g rfl)).trans hc, rest⟩

set_option maxRecDepth 100000 in
set_option maxHeartbeats 1000000 in
theorem part_any (N B1 B2 q : Nat) (F G : List Value) (f : Int) (a : Option Addr) (l c : Nat) (w : World) (hq : q ≤ 1048576) (h : Gat N w B1 B2 q F G) :
    Calls Try.prog 11 #[.int .i64 f, .slice a l c, .pointer (some ⟨B1, 0, none⟩), .pointer (some ⟨B2, 0, none⟩)] w fun e w' =>
      e = .returned (.tuple #[]) ∧ Gat N w' B1 B2 (q + 1) (F ++ [.int .i64 f]) (G ++ [.slice a l c]) ∧ Below N w w' := by
  obtain ⟨hN1, hN2, v1, v2, h1, h2, o1, o2⟩ := h
  obtain ⟨t3, hi3, hti3⟩ := Option.map_eq_some_iff.1 info3
  simp only [Prod.mk.injEq] at hti3
  obtain ⟨t22, hi22, hti22⟩ := Option.map_eq_some_iff.1 info22
  simp only [Prod.mk.injEq] at hti22
  have HT3 := hide hti3
  have HT22 := hide hti22
  have HI3 := hide hi3
  have HI22 := hide hi22
  clear hti3 hti22 hi3 hi22
  have c1 := cell_of_one h1
  have hN : N ≤ w.heap.size := by have := lt_of_block h1; omega
  have l1 := lt_of_block h1
  have l2 := lt_of_block h2
  have H1 := hide h1
  have H2 := hide h2
  have O1 := hide o1
  have O2 := hide o2
  clear h1 h2 o1 o2
  go_enter Try.func11, Try.ntmps11
  go_wp2_with (first | (at_builtin; refine wpList_append_lies _ rfl (.tmp 6) (.tmp 8) 25 rfl N 3 t3 (.int .i64 0) 1 8 Try.underlying25 HI3.out HT3.out.1 HT3.out.2.1 HT3.out.2.2 rfl (by decide) v1 q F rfl (O1.out.alloc _) ⟨w.heap.size, 0, none⟩ 1 1 [.int .i64 f] rfl rfl (World.news_of_block (heap_alloc_new w _)) ?one (by decide) ?h63 ?hby (Nat.le_trans hN (by simp)) _ rfl ?_))
  case one => intro u hu; simp at hu; subst hu; rfl
  case h63 => unfold maxLen; omega
  case hby => omega
  intro g1 cap1 w1 hown1 hgr1 hat1 hlt1
  have b1 : w1.heap[B1]? = some (.cells #[v1] 25 (0, 0)) := (hgr1.block B1 (by simp; omega) (fun e => row_type O1.out H1.out (by decide) e.symm)).trans ((Below.heap_alloc _ _ _ l1).trans H1.out)
  have b2 : w1.heap[B2]? = some (.cells #[v2] 26 (0, 0)) := (hgr1.block B2 (by simp; omega) (fun e => row_type O1.out H2.out (by decide) e.symm)).trans ((Below.heap_alloc _ _ _ l2).trans H2.out)
  have p2 : w1.ownsRow N 22 1 v2 q G := row_grown (O2.out.alloc _) hgr1 (fun k hk e => row_apart O1.out O2.out (by decide) k hk e.symm)
  have bel1 : Below N w w1 := ((Below.refl N w).alloc hN _).grown hgr1 (by simp; omega) (row_base O1.out)
  have fr1 := free_of_one b1
  have cc1 := cell_of_one b1
  have hB12 : B1 ≠ B2 := fun e => by rw [e, b2] at b1; simp at b1
  have hg1 : g1 ≠ B1 := fun e => by
    subst e; exact row_type hown1 b1 (by decide) rfl
  have b1' : (w1.setCell ⟨B1, 0, none⟩ (.slice (some ⟨g1, 0, none⟩) (q + 1) cap1)).heap[B1]? = some (.cells #[.slice (some ⟨g1, 0, none⟩) (q + 1) cap1] 25 (0, 0)) := one_setCell b1
  have b2' : (w1.setCell ⟨B1, 0, none⟩ (.slice (some ⟨g1, 0, none⟩) (q + 1) cap1)).heap[B2]? = some (.cells #[v2] 26 (0, 0)) := (Below.heap_setCell _ _ _ _ (fun e => hB12 e.symm)).trans b2
  have p1' : (w1.setCell ⟨B1, 0, none⟩ (.slice (some ⟨g1, 0, none⟩) (q + 1) cap1)).ownsRow N 3 1 (.slice (some ⟨g1, 0, none⟩) (q + 1) cap1) (q + 1) (F ++ [.int .i64 f]) := ownsRow_setCell_other hown1 (by simp [Value.ownBlock]; exact hg1) _
  have p2' : (w1.setCell ⟨B1, 0, none⟩ (.slice (some ⟨g1, 0, none⟩) (q + 1) cap1)).ownsRow N 22 1 v2 q G := ownsRow_setCell_other p2 (row_type p2 b1 (by decide)) _
  have bel2 : Below N w (w1.setCell ⟨B1, 0, none⟩ (.slice (some ⟨g1, 0, none⟩) (q + 1) cap1)) := bel1.setCell (p := ⟨B1, 0, none⟩) hN1 _
  have c2' := cell_of_one b2'
  have B1' := hide b1'
  have B2' := hide b2'
  have P1' := hide p1'
  have P2' := hide p2'
  have BEL2 := hide bel2
  clear hown1 hgr1 hat1 hlt1 b1 b2 p2 bel1 b1' b2' p1' p2' bel2 H1 H2 O1 O2 c1
  obtain ⟨u1, hu1⟩ : ∃ u, u = Value.slice (some ⟨g1, 0, none⟩) (q + 1) cap1 := ⟨_, rfl⟩
  rw [← hu1] at B1' B2' P1' P2' BEL2 c2'
  have hN3 : N ≤ (w1.setCell ⟨B1, 0, none⟩ u1).heap.size := Nat.le_trans hN BEL2.out.size
  have HNEW := hide (heap_alloc_new (w1.setCell ⟨B1, 0, none⟩ u1) (.cells #[.slice a l c] 22))
  rw [show (w1.setCell ⟨B1, 0, none⟩ u1).heap.size = w1.heap.size from by simp [World.setCell]] at HNEW
  subst hu1
  go_wp2_with (first | (at_builtin; refine wpList_append_lies _ rfl (.tmp 10) (.tmp 12) 26 rfl N 22 t22 (.slice none 0 0) 1 24 Try.underlying26 HI22.out HT22.out.1 HT22.out.2.1 HT22.out.2.2 rfl (by decide) v2 q G rfl (P2'.out.alloc _) ⟨w1.heap.size, 0, none⟩ 1 1 [.slice a l c] rfl rfl (World.news_of_block HNEW.out) ?one2 (by decide) ?h632 ?hby2 (Nat.le_trans hN3 (by simp)) _ rfl ?_))
  case one2 => intro u hu; simp at hu; subst hu; rfl
  case h632 => unfold maxLen; omega
  case hby2 => omega
  intro g2 cap2 w2 hown2 hgr2 hat2 hlt2
  have lb1 := lt_of_block B1'.out
  have lb2 := lt_of_block B2'.out
  have b1 : w2.heap[B1]? = some (.cells #[.slice (some ⟨g1, 0, none⟩) (q + 1) cap1] 25 (0, 0)) := (hgr2.block B1 (by simp at lb1 ⊢; omega) (fun e => row_type P2'.out B1'.out (by decide) e.symm)).trans ((Below.heap_alloc _ _ _ lb1).trans B1'.out)
  have b2 : w2.heap[B2]? = some (.cells #[v2] 26 (0, 0)) := (hgr2.block B2 (by simp at lb2 ⊢; omega) (fun e => row_type P2'.out B2'.out (by decide) e.symm)).trans ((Below.heap_alloc _ _ _ lb2).trans B2'.out)
  have p1 : w2.ownsRow N 3 1 (.slice (some ⟨g1, 0, none⟩) (q + 1) cap1) (q + 1) (F ++ [.int .i64 f]) := row_grown (P1'.out.alloc _) hgr2 (fun k hk e => row_apart P2'.out P1'.out (by decide) k hk e.symm)
  have bel3 : Below N w w2 := (BEL2.out.alloc hN3 _).grown hgr2 (by simp at hN3 ⊢; omega) (row_base P2'.out)
  have fr2 := free_of_one b2
  have cc2 := cell_of_one b2
  have hg2 : g2 ≠ B2 := fun e => by
    subst e; exact row_type hown2 b2 (by decide) rfl
  have G1 := hide (one_setCell (u := .slice (some ⟨g2, 0, none⟩) (q + 1) cap2) b2)
  have G2 := hide ((Below.heap_setCell w2 ⟨B2, 0, none⟩ (.slice (some ⟨g2, 0, none⟩) (q + 1) cap2) _ hB12).trans b1)
  have G3 := hide (ownsRow_setCell_other p1 (row_type p1 b2 (by decide)) (a := ⟨B2, 0, none⟩) (.slice (some ⟨g2, 0, none⟩) (q + 1) cap2))
  have G4 := hide (ownsRow_setCell_other hown2 (a := ⟨B2, 0, none⟩) (by simp [Value.ownBlock]; exact hg2) (.slice (some ⟨g2, 0, none⟩) (q + 1) cap2))
  have G5 := hide (bel3.setCell (p := ⟨B2, 0, none⟩) hN2 (.slice (some ⟨g2, 0, none⟩) (q + 1) cap2))
  clear hown2 hgr2 hat2 hlt2 b1 b2 p1 bel3 B1' B2' P1' P2' BEL2 c2' cc1 fr1
  go_wp2
  go_end0
  exact ⟨rfl, ⟨hN1, hN2, _, _, G2.out, G1.out, G3.out, G4.out⟩, G5.out⟩

/-- The p-th first piece, and the p-th part. -/
def fV (p : Nat) : Value := .int .i64 ((1185 * p * 8 : Nat) : Int)
def gV (g off n cap p : Nat) : Value := .slice (some ⟨g, off + 1185 * p, none⟩) (min 1185 (n - 1185 * p)) (cap - 1185 * p)
def fL (q : Nat) : List Value := (List.range q).map fV
def gL (g off n cap q : Nat) : List Value := (List.range q).map (gV g off n cap)
theorem fL_succ (q : Nat) : fL (q + 1) = fL q ++ [fV q] := by simp [fL, List.range_succ]
theorem fV_eq {k i : Nat} (h : 1185 * k = i) : fV k = .int .i64 ((i : Int) * 8) := by simp only [fV, h]; congr 1
theorem gV_eq (g off n cap : Nat) {k i : Nat} (h : 1185 * k = i) : gV g off n cap k = .slice (some ⟨g, off + i, none⟩) (min 1185 (n - i)) (cap - i) := by simp only [gV, h]
theorem gL_succ (g off n cap q : Nat) : gL g off n cap (q + 1) = gL g off n cap q ++ [gV g off n cap q] := by simp [gL, List.range_succ]

set_option maxRecDepth 100000 in
set_option maxHeartbeats 1000000 in
theorem in_any (N B1 B2 g off n cap : Nat) (w : World) (h0 : 0 < n) (hn : n ≤ 1048576) (hcap : n ≤ cap) (hcap2 : cap ≤ 1048576) (h : Gat N w B1 B2 0 [] []) :
    Calls Try.prog 10 #[.slice (some ⟨g, off, none⟩) n cap, .func (.func 11) #[] #[.pointer (some ⟨B1, 0, none⟩), .pointer (some ⟨B2, 0, none⟩)]] w fun e w' =>
      e = .returned (.tuple #[]) ∧ Gat N w' B1 B2 ((n + 1184) / 1185) (fL ((n + 1184) / 1185)) (gL g off n cap ((n + 1184) / 1185)) ∧ Below N w w' := by
  have H := hide h
  clear h
  obtain ⟨q, hq⟩ : ∃ q, (n + 1184) / 1185 = q := ⟨_, rfl⟩
  rw [hq]
  have hq1 : 1185 * q < n + 1185 := by omega
  have hq2 : n ≤ 1185 * q := by omega
  have hq3 : q ≤ 1048576 := by omega
  clear hq
  go_enter Try.func10, Try.ntmps10
  go_wp2
  go_loopw [4] (fun t wr => ∃ k : Nat, k ≤ q ∧ t = .int .i64 ((1185 * k : Nat) : Int) ∧ Gat N wr B1 B2 k (fL k) (gL g off n cap k) ∧ Below N w wr) (fun t _ => 1185 * q - (intOf t).toNat)
  case atStart => exact ⟨0, by omega, rfl, H.out, Below.refl _ _⟩
  case round =>
    obtain ⟨k, hk, rfl, hG, hB⟩ := hrel
    have HG := hide hG
    have HB := hide hB
    clear hG hB
    by_cases hlt : k < q
    · have hin : 1185 * k < n := by omega
      obtain ⟨i, hi⟩ : ∃ i, 1185 * k = i := ⟨_, rfl⟩
      rw [hi]
      rw [hi] at hin
      have i1 : (i : Int) < (n : Int) := by omega
      have HK := hide hi
      clear hi
      by_cases hi0 : i = 0
      · subst hi0
        by_cases hm : n < 1185
        · have i3 : (n : Int) < 1185 := by omega
          have HL := hide (show min 1185 (n - 0) = n by omega)
          go_wp2_with (go_at_call 11; refine (part_any N B1 B2 k _ _ _ _ _ _ wr ?q0 HG.out).mono ?_)
          case q0 => omega
          rintro e w1 ⟨rfl, hG1, hB1⟩
          have HG1 := hide hG1
          have HB1 := hide (HB.out.trans hB1)
          clear hG1 hB1
          go_wp2
          go_roundw
          case rel =>
            refine ⟨k + 1, by omega, by first | go_num | (have := HK.out; go_num) | (have := HK.out; congr 1; omega), ?_, HB1.out⟩
            rw [fL_succ, gL_succ, fV_eq HK.out, gV_eq g off n cap HK.out]
            rw [HL.out]
            first | exact HG1.out | simpa using HG1.out
          case measure => have := HK.out; simp [intOf]; omega
        · have i3 : (1185 : Int) ≤ (n : Int) := by omega
          have HL := hide (show min 1185 (n - 0) = 1185 by omega)
          go_wp2_with (go_at_call 11; refine (part_any N B1 B2 k _ _ _ _ _ _ wr ?q0 HG.out).mono ?_)
          case q0 => omega
          rintro e w1 ⟨rfl, hG1, hB1⟩
          have HG1 := hide hG1
          have HB1 := hide (HB.out.trans hB1)
          clear hG1 hB1
          go_wp2
          go_roundw
          case rel =>
            refine ⟨k + 1, by omega, by first | go_num | (have := HK.out; go_num) | (have := HK.out; congr 1; omega), ?_, HB1.out⟩
            rw [fL_succ, gL_succ, fV_eq HK.out, gV_eq g off n cap HK.out]
            rw [HL.out]
            first | exact HG1.out | simpa using HG1.out
          case measure => have := HK.out; simp [intOf]; omega
      · have i2 : (0 : Int) < (i : Int) := by omega
        by_cases hm : n < i + 1185
        · have i3 : (n : Int) < (i : Int) + 1185 := by omega
          have HL := hide (show min 1185 (n - i) = n - i by omega)
          go_wp2_with (go_at_call 11; refine (part_any N B1 B2 k _ _ _ _ _ _ wr ?q0 HG.out).mono ?_)
          case q0 => omega
          rintro e w1 ⟨rfl, hG1, hB1⟩
          have HG1 := hide hG1
          have HB1 := hide (HB.out.trans hB1)
          clear hG1 hB1
          go_wp2
          go_roundw
          case rel =>
            refine ⟨k + 1, by omega, by first | go_num | (have := HK.out; go_num) | (have := HK.out; congr 1; omega), ?_, HB1.out⟩
            rw [fL_succ, gL_succ, fV_eq HK.out, gV_eq g off n cap HK.out]
            rw [HL.out]
            first | exact HG1.out | simpa using HG1.out
          case measure => have := HK.out; simp [intOf]; omega
        · have i3 : (i : Int) + 1185 ≤ (n : Int) := by omega
          have HL := hide (show min 1185 (n - i) = 1185 by omega)
          go_wp2_with (go_at_call 11; refine (part_any N B1 B2 k _ _ _ _ _ _ wr ?q0 HG.out).mono ?_)
          case q0 => omega
          rintro e w1 ⟨rfl, hG1, hB1⟩
          have HG1 := hide hG1
          have HB1 := hide (HB.out.trans hB1)
          clear hG1 hB1
          go_wp2
          go_roundw
          case rel =>
            refine ⟨k + 1, by omega, by first | go_num | (have := HK.out; go_num) | (have := HK.out; congr 1; omega), ?_, HB1.out⟩
            rw [fL_succ, gL_succ, fV_eq HK.out, gV_eq g off n cap HK.out]
            rw [HL.out]
            first | exact HG1.out | simpa using HG1.out
          case measure => have := HK.out; simp [intOf]; omega
    · obtain rfl : k = q := by omega
      have j1 : ¬ ((1185 * k : Nat) : Int) < (n : Int) := by omega
      have j2 : ((1185 * k : Nat) : Int) ≠ 0 := by omega
      obtain ⟨i, hi⟩ : ∃ i, 1185 * k = i := ⟨_, rfl⟩
      rw [hi]
      rw [hi] at j1 j2
      have j3 : (0 : Int) < (i : Int) := by omega
      clear hi
      go_wp2
      go_end0
      exact ⟨rfl, HG.out, HB.out⟩
end Go.Proofs.Qxb6616866a
