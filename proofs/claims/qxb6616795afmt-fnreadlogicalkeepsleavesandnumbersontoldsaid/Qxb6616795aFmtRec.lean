/-
  The contract of 'recordEntries'.
-/
import Derived.Test.Qxb6616795aFmtLeaf
import Derived.Deep.RegionHeld3
namespace Go.Proofs.Qxb6616795aFmt
open Go.RowKit

def byt (R : List Int) (j : Nat) : Int := R.getD j 0
def u32at (R : List Int) (p : Nat) : Int := u32of (byt R p) (byt R (p + 1)) (byt R (p + 2)) (byt R (p + 3))
theorem u32at_bd (R : List Int) (p : Nat) : 0 ≤ u32at R p ∧ u32at R p < 4294967296 := u32of_bd _ _ _ _

def RecCells (g : Nat) (R : List Int) (w : World) : Prop := ∀ j, j < 512 → w.cell? ⟨g, j, none⟩ = some (.int .u8 (byt R j))
theorem recCells {g : Nat} {R : List Int} {w : World} (hg : w.heap[g]? = some (.cells (bytesV R).toArray 5 (0, 0))) (hR : R.length = 512) : RecCells g R w := by
  intro j hj
  rw [cell_of_row w g j _ _ _ hg]
  simp [bytesV, byt, hR, hj]

theorem uint32_rec (g off len cap : Nat) (R : List Int) (w : World) (h : ∀ j, j < 512 → w.cell? ⟨g, j, none⟩ = some (.int .u8 (byt R j))) (h4 : 3 < len) (ho : off + 3 < 512) :
    Calls Tryf.prog 16 #[.agg #[], .slice (some ⟨g, off, none⟩) len cap] w fun e w' => e = .returned (.int .u32 (u32at R off)) ∧ Below w.heap.size w w' :=
  uint32_any g off len cap _ _ _ _ w h4 (h off (by omega)) (h (off + 1) (by omega)) (h (off + 2) (by omega)) (h (off + 3) (by omega))

def entV (R : List Int) (i : Nat) : List Value := [.int .u8 (byt R (446 + 16 * i)), .int .u8 (byt R (450 + 16 * i)), .int .i64 (wrap64 (u32at R (454 + 16 * i))), .int .i64 (wrap64 (u32at R (458 + 16 * i)))]
def zeroE : List Value := [.int .u8 0, .int .u8 0, .int .i64 0, .int .i64 0]
def arrV (R : List Int) (k : Nat) : List Value :=
  (if 0 < k then entV R 0 else zeroE) ++ (if 1 < k then entV R 1 else zeroE) ++ (if 2 < k then entV R 2 else zeroE) ++ (if 3 < k then entV R 3 else zeroE)

/-- What the cell at a place holds: a name that the walk doesn't lay open. -/
def cv (w : World) (b j : Nat) : Value := (w.cell? ⟨b, j, none⟩).getD undef
def RS (g N1 : Nat) (R : List Int) (w : World) : Prop :=
  (∀ j, j < 512 → w.cell? ⟨g, j, none⟩ = some (.int .u8 (byt R j))) ∧ (∀ j, w.frozen? ⟨N1, j, none⟩ = false) ∧ (∀ j, j < 16 → w.cell? ⟨N1, j, none⟩ = some (cv w N1 j)) ∧ g < w.heap.size ∧ N1 < w.heap.size
theorem keepS {g N1 : Nat} {R : List Int} {a b : World} (hb : Below a.heap.size a b) (h : RS g N1 R a) : RS g N1 R b := by
  have e : ∀ j, b.cell? ⟨N1, j, none⟩ = a.cell? ⟨N1, j, none⟩ := fun j => hb.cell (p := ⟨N1, j, none⟩) h.2.2.2.2
  refine ⟨fun j hj => (hb.cell (p := ⟨g, j, none⟩) h.2.2.2.1).trans (h.1 j hj), fun j => (hb.frozen (p := ⟨N1, j, none⟩) h.2.2.2.2).trans (h.2.1 j), fun j hj => ?_, Nat.lt_of_lt_of_le h.2.2.2.1 hb.size, Nat.lt_of_lt_of_le h.2.2.2.2 hb.size⟩
  rw [e, h.2.2.1 j hj]
  simp only [cv, e]
theorem keepSet {g N1 : Nat} {R : List Int} {a : World} (hne : g ≠ N1) (i : Nat) (v : Value) (h : RS g N1 R a) : RS g N1 R (a.setCell ⟨N1, i, none⟩ v) := by
  refine ⟨fun j hj => ?_, fun j => ?_, fun j hj => ?_, ?_, ?_⟩
  · exact (World.cell?_of_block (w := a) (a := ⟨g, j, none⟩) (Below.heap_setCell _ _ _ _ hne)).trans (h.1 j hj)
  · exact (World.frozen?_setCell _ _ _ _).trans (h.2.1 j)
  · obtain ⟨v', hv⟩ := cell?_setCell_some (w := a) (p := ⟨N1, i, none⟩) (x := v) (q := ⟨N1, j, none⟩) (v := cv a N1 j) (h.2.2.1 j hj)
    simp only [cv, hv]
    rfl
  · simpa [World.setCell] using h.2.2.2.1
  · simpa [World.setCell] using h.2.2.2.2


theorem arr_set0 (R : List Int) : ((((arrV R 0).toArray.setIfInBounds 0 (.int .u8 (byt R 446))).setIfInBounds 1 (.int .u8 (byt R 450))).setIfInBounds 2 (.int .i64 (wrap64 (u32at R 454)))).setIfInBounds 3 (.int .i64 (wrap64 (u32at R 458))) = (arrV R 1).toArray := by rfl
theorem arr_set1 (R : List Int) : ((((arrV R 1).toArray.setIfInBounds 4 (.int .u8 (byt R 462))).setIfInBounds 5 (.int .u8 (byt R 466))).setIfInBounds 6 (.int .i64 (wrap64 (u32at R 470)))).setIfInBounds 7 (.int .i64 (wrap64 (u32at R 474))) = (arrV R 2).toArray := by rfl
theorem arr_set2 (R : List Int) : ((((arrV R 2).toArray.setIfInBounds 8 (.int .u8 (byt R 478))).setIfInBounds 9 (.int .u8 (byt R 482))).setIfInBounds 10 (.int .i64 (wrap64 (u32at R 486)))).setIfInBounds 11 (.int .i64 (wrap64 (u32at R 490))) = (arrV R 3).toArray := by rfl
theorem arr_set3 (R : List Int) : ((((arrV R 3).toArray.setIfInBounds 12 (.int .u8 (byt R 494))).setIfInBounds 13 (.int .u8 (byt R 498))).setIfInBounds 14 (.int .i64 (wrap64 (u32at R 502)))).setIfInBounds 15 (.int .i64 (wrap64 (u32at R 506))) = (arrV R 4).toArray := by rfl

theorem arr_sz (R : List Int) : (arrV R 0).toArray.size = (arrV R 4).toArray.size := by rfl
theorem arr_one (R : List Int) : (arrV R 4).toArray.all (·.oneCell') = true := by simp [arrV, entV, Value.oneCell']

/-- What the round's four stores leave: the relation's limbs. -/
theorem round_row {N : Nat} {w wr w1 w2 : World} {A A' Z : Array Value} (hrow : wr.heap[N + 1]? = some (.cells A 44 (0, 0))) (hres : wr.heap[N]? = some (.cells Z 44 (0, 0))) (hbel : Below N w wr)
    (hb1 : Below wr.drew.heap.size wr.drew w1) (hb2 : Below w1.heap.size w1 w2) (i0 i1 i2 i3 : Nat) (v0 v1 v2 v3 : Value)
    (hA : (((A.setIfInBounds i0 v0).setIfInBounds i1 v1).setIfInBounds i2 v2).setIfInBounds i3 v3 = A') :
    ((((w2.setCell ⟨N + 1, i0, none⟩ v0).setCell ⟨N + 1, i1, none⟩ v1).setCell ⟨N + 1, i2, none⟩ v2).setCell ⟨N + 1, i3, none⟩ v3).heap[N + 1]? = some (.cells A' 44 (0, 0)) ∧
    ((((w2.setCell ⟨N + 1, i0, none⟩ v0).setCell ⟨N + 1, i1, none⟩ v1).setCell ⟨N + 1, i2, none⟩ v2).setCell ⟨N + 1, i3, none⟩ v3).heap[N]? = some (.cells Z 44 (0, 0)) ∧
    Below N w ((((w2.setCell ⟨N + 1, i0, none⟩ v0).setCell ⟨N + 1, i1, none⟩ v1).setCell ⟨N + 1, i2, none⟩ v2).setCell ⟨N + 1, i3, none⟩ v3) := by
  have hl : N + 1 < wr.heap.size := (Array.getElem?_eq_some_iff.1 hrow).1
  have hs1 : wr.heap.size ≤ w1.heap.size := hb1.size
  have e1 : w1.heap[N + 1]? = some (.cells A 44 (0, 0)) := (hb1.block (N + 1) hl).trans hrow
  have e2 : w2.heap[N + 1]? = some (.cells A 44 (0, 0)) := (hb2.block (N + 1) (by omega)).trans e1
  have z1 : w1.heap[N]? = some (.cells Z 44 (0, 0)) := (hb1.block N (Nat.lt_of_succ_lt hl)).trans hres
  have z2 : w2.heap[N]? = some (.cells Z 44 (0, 0)) := (hb2.block N (by omega)).trans z1
  refine ⟨?_, ?_, ?_⟩
  · rw [← hA]
    exact heap_setCell_same _ _ _ _ _ _ (heap_setCell_same _ _ _ _ _ _ (heap_setCell_same _ _ _ _ _ _ (heap_setCell_same _ _ _ _ _ _ e2)))
  · rw [heap_setCell_other _ _ _ _ (by simp), heap_setCell_other _ _ _ _ (by simp), heap_setCell_other _ _ _ _ (by simp), heap_setCell_other _ _ _ _ (by simp)]
    exact z2
  · have q : Below N w w2 := (hbel.drew.trans (hb1.mono (Nat.le_of_lt (Nat.lt_of_succ_lt hl)))).trans (hb2.mono (by omega))
    exact (((q.setCell (by simp) _).setCell (by simp) _).setCell (by simp) _).setCell (by simp) _

set_option maxRecDepth 100000 in
set_option maxHeartbeats 4000000 in
theorem recordEntries_any (g : Nat) (R : List Int) (w : World) (hg : w.heap[g]? = some (.cells (bytesV R).toArray 5 (0, 0))) (hR : R.length = 512) :
    Calls Tryf.prog 10 #[.slice (some ⟨g, 0, none⟩) 512 512] w fun e w' => e = .returned (.agg (arrV R 4).toArray) ∧ Below w.heap.size w w' := by
  have hgl : g < w.heap.size := (Array.getElem?_eq_some_iff.1 hg).1
  have HG := hide hg
  clear hg
  go_enter Tryf.func10, Tryf.ntmps10
  go_wp2
  go_loopw [6] (fun t wr => ∃ k : Nat, k ≤ 4 ∧ t = .int .i64 k ∧ wr.heap[w.heap.size + 1]? = some (.cells (arrV R k).toArray 44 (0, 0)) ∧ wr.heap[w.heap.size]? = some (.cells (arrV R 0).toArray 44 (0, 0)) ∧ Below w.heap.size w wr) (fun t _ => 4 - (intOf t).toNat)
  case atStart => exact ⟨0, by omega, rfl, heap_alloc2_new w _ _, heap_alloc2_old w _ _, ((Below.refl _ w).alloc (Nat.le_refl _) _).alloc (by simp) _⟩
  case round =>
    obtain ⟨k, hk, rfl, hrow, hres, hbel⟩ := hrel
    have hS : ∀ j, j < 512 → wr.cell? ⟨g, j, none⟩ = some (.int .u8 (byt R j)) := fun j hj => (hbel.cell (p := ⟨g, j, none⟩) hgl).trans (recCells HG.out hR j hj)
    have hF : ∀ j, wr.frozen? ⟨w.heap.size + 1, j, none⟩ = false := fun j => frozen_of_row wr _ j _ _ hrow
    have hsz : w.heap.size + 1 < wr.heap.size := (Array.getElem?_eq_some_iff.1 hrow).1
    have hgr : g < wr.heap.size := by omega
    have hne : g ≠ w.heap.size + 1 := by omega
    have HRS : Hid (RS g (w.heap.size + 1) R wr.drew) := ⟨hS, hF, fun j hj => by
      have e : wr.cell? ⟨w.heap.size + 1, j, none⟩ = (arrV R k).toArray[j]? := cell_of_row wr _ j _ _ _ hrow
      have hl : (arrV R k).toArray.size = 16 := by simp only [arrV, List.size_toArray, List.length_append]; repeat' split <;> simp [entV, zeroE]
      have e2 : wr.drew.cell? ⟨w.heap.size + 1, j, none⟩ = (arrV R k).toArray[j]? := e
      simp only [cv, e2, Array.getElem?_eq_getElem (by omega : j < (arrV R k).toArray.size), Option.getD_some], hgr, hsz⟩
    have HR := hide hrow
    have HZ := hide hres
    have HB := hide hbel
    clear hrow hres hbel
    rcases (by omega : k = 0 ∨ k = 1 ∨ k = 2 ∨ k = 3 ∨ k = 4) with rfl | rfl | rfl | rfl | rfl
    · go_wp2
      go_region_held3 (fun w' => (∀ j, j < 512 → w'.cell? ⟨g, j, none⟩ = some (.int .u8 (byt R j))) ∧ (∀ j, w'.frozen? ⟨w.heap.size + 1, j, none⟩ = false) ∧ (∀ j, j < 16 → w'.cell? ⟨w.heap.size + 1, j, none⟩ = some (cv w' (w.heap.size + 1) j)) ∧ g < w'.heap.size ∧ w.heap.size + 1 < w'.heap.size)
        (first | exact HRS.out | exact keepS (by assumption) (by assumption) | exact keepSet hne _ _ (keepSet hne _ _ (keepSet hne _ _ (keepSet hne _ _ (by assumption)))))
        (first | (go_at_call 16; refine (uint32_rec _ _ _ _ R _ (And.left (by assumption)) ?_ ?_).mono ?_; (decide); (decide); rintro e w' ⟨rfl, hb⟩))
      all_goals
        rename_i w1 hb1 hHeld
        clear hHeld
        have HB1 := hide hb1
        have HB2 := hide hb
        clear hb1 hb
        go_wp2
        go_roundw
        case rel => exact ⟨1, by omega, by go_num, round_row HR.out HZ.out HB.out HB1.out HB2.out _ _ _ _ _ _ _ _ (arr_set0 R)⟩
        case measure => simp [intOf]
    · go_wp2
      go_region_held3 (fun w' => (∀ j, j < 512 → w'.cell? ⟨g, j, none⟩ = some (.int .u8 (byt R j))) ∧ (∀ j, w'.frozen? ⟨w.heap.size + 1, j, none⟩ = false) ∧ (∀ j, j < 16 → w'.cell? ⟨w.heap.size + 1, j, none⟩ = some (cv w' (w.heap.size + 1) j)) ∧ g < w'.heap.size ∧ w.heap.size + 1 < w'.heap.size)
        (first | exact HRS.out | exact keepS (by assumption) (by assumption) | exact keepSet hne _ _ (keepSet hne _ _ (keepSet hne _ _ (keepSet hne _ _ (by assumption)))))
        (first | (go_at_call 16; refine (uint32_rec _ _ _ _ R _ (And.left (by assumption)) ?_ ?_).mono ?_; (decide); (decide); rintro e w' ⟨rfl, hb⟩))
      all_goals
        rename_i w1 hb1 hHeld
        clear hHeld
        have HB1 := hide hb1
        have HB2 := hide hb
        clear hb1 hb
        go_wp2
        go_roundw
        case rel => exact ⟨2, by omega, by go_num, round_row HR.out HZ.out HB.out HB1.out HB2.out _ _ _ _ _ _ _ _ (arr_set1 R)⟩
        case measure => simp [intOf]
    · go_wp2
      go_region_held3 (fun w' => (∀ j, j < 512 → w'.cell? ⟨g, j, none⟩ = some (.int .u8 (byt R j))) ∧ (∀ j, w'.frozen? ⟨w.heap.size + 1, j, none⟩ = false) ∧ (∀ j, j < 16 → w'.cell? ⟨w.heap.size + 1, j, none⟩ = some (cv w' (w.heap.size + 1) j)) ∧ g < w'.heap.size ∧ w.heap.size + 1 < w'.heap.size)
        (first | exact HRS.out | exact keepS (by assumption) (by assumption) | exact keepSet hne _ _ (keepSet hne _ _ (keepSet hne _ _ (keepSet hne _ _ (by assumption)))))
        (first | (go_at_call 16; refine (uint32_rec _ _ _ _ R _ (And.left (by assumption)) ?_ ?_).mono ?_; (decide); (decide); rintro e w' ⟨rfl, hb⟩))
      all_goals
        rename_i w1 hb1 hHeld
        clear hHeld
        have HB1 := hide hb1
        have HB2 := hide hb
        clear hb1 hb
        go_wp2
        go_roundw
        case rel => exact ⟨3, by omega, by go_num, round_row HR.out HZ.out HB.out HB1.out HB2.out _ _ _ _ _ _ _ _ (arr_set2 R)⟩
        case measure => simp [intOf]
    · go_wp2
      go_region_held3 (fun w' => (∀ j, j < 512 → w'.cell? ⟨g, j, none⟩ = some (.int .u8 (byt R j))) ∧ (∀ j, w'.frozen? ⟨w.heap.size + 1, j, none⟩ = false) ∧ (∀ j, j < 16 → w'.cell? ⟨w.heap.size + 1, j, none⟩ = some (cv w' (w.heap.size + 1) j)) ∧ g < w'.heap.size ∧ w.heap.size + 1 < w'.heap.size)
        (first | exact HRS.out | exact keepS (by assumption) (by assumption) | exact keepSet hne _ _ (keepSet hne _ _ (keepSet hne _ _ (keepSet hne _ _ (by assumption)))))
        (first | (go_at_call 16; refine (uint32_rec _ _ _ _ R _ (And.left (by assumption)) ?_ ?_).mono ?_; (decide); (decide); rintro e w' ⟨rfl, hb⟩))
      all_goals
        rename_i w1 hb1 hHeld
        clear hHeld
        have HB1 := hide hb1
        have HB2 := hide hb
        clear hb1 hb
        go_wp2
        go_roundw
        case rel => exact ⟨4, by omega, by go_num, round_row HR.out HZ.out HB.out HB1.out HB2.out _ _ _ _ _ _ _ _ (arr_set3 R)⟩
        case measure => simp [intOf]
    · go_wp2_with (first | (refine wpList_load_row rfl 44 (.tmp 3) rfl (w.heap.size + 1) rfl 44 (arrV R 4).toArray (0, 0) _ HR.out Tryf.underlying44 rfl (by kernel_rfl) ?_) | (refine wpList_store_row rfl 44 (.tmp 2) (.tmp 34) rfl w.heap.size (arrV R 4).toArray rfl rfl 44 (arrV R 0).toArray HZ.out (by kernel_rfl) (arr_sz R) (arr_one R) ?_))
      refine bodyPost_ret (v := .agg (arrV R 4).toArray) (results_cell_row Tryf.results10 _ _ w.heap.size 44 (arrV R 4).toArray (0, 0) _ rfl (setRow_heap _ _ _ _ _ _ HZ.out) Tryf.underlying44 rfl (by kernel_rfl)) rfl ⟨rfl, ?_⟩
      exact below_setRow HB.out (Nat.le_refl _) _
end Go.Proofs.Qxb6616795aFmt
