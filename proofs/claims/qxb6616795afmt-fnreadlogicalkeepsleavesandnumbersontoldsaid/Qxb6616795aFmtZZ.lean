/-
  The contract of 'ZZReadLogical'.
-/
import Derived.Test.Qxb6616795aFmtZZa
import Derived.Test.Qxb6616795aFmtChain
namespace Go.Proofs.Qxb6616795aFmt
open Go.RowKit

theorem info32z : (Tryf.prog.info? 32).map (fun i => (i.zero, i.size, i.bytes)) = some (some (.agg #[.int .i64 0, .int .i64 0, .int .i64 0]), 3, 24) := by kernel_rfl
theorem make32 (n : Nat) (hn : n ≤ 1048576) : ∃ Z : List Value, Z.length = n * 3 ∧ ∀ w : World, (Instr.makeSlice 30 (.int .i64 n) (.int .i64 n)).run Tryf.prog w = .ok (.slice (some ⟨w.heap.size, 0, none⟩) n n) (w.alloc (.cells Z.toArray 32)) := by
  obtain ⟨ti, hi0, hti⟩ := Option.map_eq_some_iff.1 info32z
  simp only [Prod.mk.injEq] at hti
  obtain ⟨hz0, hz1, hz2⟩ := hti
  refine ⟨(madeCells #[.int .i64 0, .int .i64 0, .int .i64 0] (n * 3)).toList, by simp [size_madeCells], fun w => ?_⟩
  have h := run_make (P := Tryf.prog) w 30 32 ti _ Tryf.underlying30 hi0 hz0 .i64 .i64 n n (by omega) (by omega) (by rw [hz2]; omega) (by omega)
  rw [h, hz1]
  simp [Value.cells]

theorem cvAll {w : World} {b : Nat} {X : List Value} {t : TypeId} (h : w.heap[b]? = some (.cells X.toArray t (0, 0))) : ∀ j, j < X.length → w.cell? ⟨b, j, none⟩ = some (cv w b j) := by
  intro j hj
  have e := cell_of_row w b j _ _ _ h
  simp only [cv, e]
  simp [hj]
theorem cvSet {w : World} {b : Nat} {N : Nat} (i : Nat) (v : Value) (h : ∀ j, j < N → w.cell? ⟨b, j, none⟩ = some (cv w b j)) : ∀ j, j < N → (w.setCell ⟨b, i, none⟩ v).cell? ⟨b, j, none⟩ = some (cv (w.setCell ⟨b, i, none⟩ v) b j) := by
  intro j hj
  obtain ⟨v', hv⟩ := cell?_setCell_some (w := w) (p := ⟨b, i, none⟩) (x := v) (q := ⟨b, j, none⟩) (v := cv w b j) (h j hj)
  simp only [cv, hv]
  rfl
def Z5 (lb fb gb B k N : Nat) (x1 x2 x3 : Int) (wx : World) : Prop :=
  wx.cell? ⟨lb, k, none⟩ = some (.int .i64 x1) ∧ wx.cell? ⟨fb, k, none⟩ = some (.int .i64 x2) ∧ wx.cell? ⟨gb, k, none⟩ = some (.int .i64 x3) ∧ (∀ j, wx.frozen? ⟨B, j, none⟩ = false) ∧ (∀ j, j < N → wx.cell? ⟨B, j, none⟩ = some (cv wx B j))
theorem Z5.set {lb fb gb B k N : Nat} {x1 x2 x3 : Int} {wx : World} (h1 : lb ≠ B) (h2 : fb ≠ B) (h3 : gb ≠ B) (i : Nat) (v : Value) (h : Z5 lb fb gb B k N x1 x2 x3 wx) : Z5 lb fb gb B k N x1 x2 x3 (wx.setCell ⟨B, i, none⟩ v) := by
  have hk : Kp (fun j => j = B) wx (wx.setCell ⟨B, i, none⟩ v) := (Kp.refl (fun j => j = B) wx).setCell (fun _ => rfl) _
  exact ⟨hk.cell h.1 h1, hk.cell h.2.1 h2, hk.cell h.2.2.1 h3, fun j => (World.frozen?_setCell _ _ _ _).trans (h.2.2.2.1 j), cvSet i v h.2.2.2.2⟩
theorem Z5.drew {lb fb gb B k N : Nat} {x1 x2 x3 : Int} {wx : World} (h : Z5 lb fb gb B k N x1 x2 x3 wx) : Z5 lb fb gb B k N x1 x2 x3 wx.drew := h

theorem mix_step3 {w : World} {b : Nat} {X Z : List Value} {t : TypeId} (hl : X.length = Z.length) (k : Nat) (v1 v2 v3 : Value) (h1 : X[k * 3]? = some v1) (h2 : X[k * 3 + 1]? = some v2) (h3 : X[k * 3 + 2]? = some v3)
    (h : w.heap[b]? = some (.cells (mix X Z (k * 3)).toArray t (0, 0))) :
    (((w.setCell ⟨b, k * 3, none⟩ v1).setCell ⟨b, k * 3 + 1, none⟩ v2).setCell ⟨b, k * 3 + 2, none⟩ v3).heap[b]? = some (.cells (mix X Z ((k + 1) * 3)).toArray t (0, 0)) := by
  rw [heap_setCell_same _ _ _ _ _ _ (heap_setCell_same _ _ _ _ _ _ (heap_setCell_same _ _ _ _ _ _ h)), mix_set X Z hl _ _ h1, mix_set X Z hl _ _ h2, mix_set X Z hl _ _ h3, show (k + 1) * 3 = k * 3 + 2 + 1 from by omega]


theorem info3 : (Tryf.prog.info? 3).map (fun i => (i.zero, i.size, i.bytes)) = some (some (.int .i64 0), 1, 8) := by kernel_rfl
theorem info2 : (Tryf.prog.info? 2).map (fun i => (i.zero, i.size, i.bytes)) = some (some (.int .i64 0), 1, 8) := by kernel_rfl
theorem make3 (n : Nat) (hn : n ≤ 1048576) : ∃ Z : List Value, Z.length = n ∧ ∀ w : World, (Instr.makeSlice 23 (.int .i64 n) (.int .i64 n)).run Tryf.prog w = .ok (.slice (some ⟨w.heap.size, 0, none⟩) n n) (w.alloc (.cells Z.toArray 3)) := by
  obtain ⟨ti, hi0, hti⟩ := Option.map_eq_some_iff.1 info3
  simp only [Prod.mk.injEq] at hti
  obtain ⟨hz0, hz1, hz2⟩ := hti
  refine ⟨(madeCells #[.int .i64 0] n).toList, by simp [size_madeCells], fun w => ?_⟩
  have h := run_make (P := Tryf.prog) w 23 3 ti _ Tryf.underlying23 hi0 hz0 .i64 .i64 n n (by omega) (by omega) (by rw [hz2]; omega) (by omega)
  rw [h, hz1]
  simp [Value.cells]
theorem make2 (n : Nat) (hn : n ≤ 1048576) : ∃ Z : List Value, Z.length = n ∧ ∀ w : World, (Instr.makeSlice 24 (.int .i64 n) (.int .i64 n)).run Tryf.prog w = .ok (.slice (some ⟨w.heap.size, 0, none⟩) n n) (w.alloc (.cells Z.toArray 2)) := by
  obtain ⟨ti, hi0, hti⟩ := Option.map_eq_some_iff.1 info2
  simp only [Prod.mk.injEq] at hti
  obtain ⟨hz0, hz1, hz2⟩ := hti
  refine ⟨(madeCells #[.int .i64 0] n).toList, by simp [size_madeCells], fun w => ?_⟩
  have h := run_make (P := Tryf.prog) w 24 2 ti _ Tryf.underlying24 hi0 hz0 .i64 .i64 n n (by omega) (by omega) (by rw [hz2]; omega) (by omega)
  rw [h, hz1]
  simp [Value.cells]

/-- What the call leaves. -/
def ZPost (w : World) (c : List (Int × Int) × Bool) (LN LF LL : List Int) (number : Int) (e : Ending) (w' : World) : Prop :=
  ∃ b1 b2 b3 re, e = .returned (.tuple #[.slice (some ⟨b1, 0, none⟩) (zzN c LN number).length (zzN c LN number).length, .slice (some ⟨b2, 0, none⟩) (zzN c LN number).length (zzN c LN number).length, .slice (some ⟨b3, 0, none⟩) (zzN c LN number).length (zzN c LN number).length, .int .i64 (number + c.1.length), re]) ∧
    w'.heap[b1]? = some (.cells (i64V (zzN c LN number)).toArray 3 (0, 0)) ∧ w'.heap[b2]? = some (.cells (i64V (zzF c LF)).toArray 2 (0, 0)) ∧ w'.heap[b3]? = some (.cells (i64V (zzL c LL)).toArray 2 (0, 0)) ∧
    (c.2 = true → re = .nilIface) ∧ (c.2 = false → ∃ T p, re = .iface T (.pointer (some p))) ∧ Below w.heap.size w w'

theorem rls_no {a b x k : Nat} {l c : Nat} (hx : x < a) (hab : a ≤ b) (_hk : k = k) : ¬ RLS b (.slice (some ⟨a, 0, none⟩) l c) x := by
  intro h
  rcases h with h | h
  · omega
  · simp [Value.ownBlock] at h; omega

theorem rows3 {w : World} {B q : Nat} {X1 X2 X3 Z1 Z2 : List Value} {v1 v2 v3 : Value}
    (h : w.heap[B]? = some (.cells (mix X1 Z1 q).toArray 3 (0, 0)) ∧ w.heap[B + 1]? = some (.cells (mix X2 Z2 q).toArray 2 (0, 0)) ∧ w.heap[B + 1 + 1]? = some (.cells (mix X3 Z2 q).toArray 2 (0, 0)))
    (hl : X1.length = Z1.length ∧ X2.length = Z2.length ∧ X3.length = Z2.length) (hm : X1[q]? = some v1 ∧ X2[q]? = some v2 ∧ X3[q]? = some v3) :
    (((w.setCell ⟨B, q, none⟩ v1).setCell ⟨B + 1, q, none⟩ v2).setCell ⟨B + 1 + 1, q, none⟩ v3).heap[B]? = some (.cells (mix X1 Z1 (q + 1)).toArray 3 (0, 0)) ∧
    (((w.setCell ⟨B, q, none⟩ v1).setCell ⟨B + 1, q, none⟩ v2).setCell ⟨B + 1 + 1, q, none⟩ v3).heap[B + 1]? = some (.cells (mix X2 Z2 (q + 1)).toArray 2 (0, 0)) ∧
    (((w.setCell ⟨B, q, none⟩ v1).setCell ⟨B + 1, q, none⟩ v2).setCell ⟨B + 1 + 1, q, none⟩ v3).heap[B + 1 + 1]? = some (.cells (mix X3 Z2 (q + 1)).toArray 2 (0, 0)) := by
  refine ⟨?_, ?_, ?_⟩
  · rw [heap_setCell_other _ _ _ _ (by simp; omega), heap_setCell_other _ _ _ _ (by simp), heap_setCell_same _ _ _ _ _ _ h.1, mix_set _ _ hl.1 _ _ hm.1]
  · rw [heap_setCell_other _ _ _ _ (by simp), heap_setCell_same _ _ _ _ _ _ ((heap_setCell_other _ _ _ _ (by simp)).trans h.2.1), mix_set _ _ hl.2.1 _ _ hm.2.1]
  · rw [heap_setCell_same _ _ _ _ _ _ ((heap_setCell_other _ _ _ _ (by simp)).trans ((heap_setCell_other _ _ _ _ (by simp; omega)).trans h.2.2)), mix_set _ _ hl.2.2 _ _ hm.2.2]

set_option maxRecDepth 100000 in
set_option maxHeartbeats 4000000 in
theorem zz_any (a1 a2 a3 : Option Addr) (LN LF LL : List Int) (da : Option Addr) (dn dc : Nat) (D : List Int) (ss num fst lst number : Int) (n : Nat) (pe pu : Addr) (su : ByteArray) (w : World)
    (e1 : LN.length = n) (e2 : LF.length = n) (e3 : LL.length = n) (hn : n ≤ 16384)
    (hrows : n = 0 ∨ ∃ lb fb gb, a1 = some ⟨lb, 0, none⟩ ∧ a2 = some ⟨fb, 0, none⟩ ∧ a3 = some ⟨gb, 0, none⟩ ∧ w.heap[lb]? = some (.cells (i64V LN).toArray 3 (0, 0)) ∧ w.heap[fb]? = some (.cells (i64V LF).toArray 2 (0, 0)) ∧ w.heap[gb]? = some (.cells (i64V LL).toArray 2 (0, 0)))
    (hd : DiskAt w (.slice da dn dc) D)
    (ce : w.cell? ⟨0, 0, none⟩ = some (.iface 63 (.pointer (some pe)))) (cu : w.cell? ⟨1, 0, none⟩ = some (.iface 63 (.pointer (some pu)))) (cs : w.cell? pu = some (.string su))
    (hD : D.length ≤ 524288) (h1 : 512 ≤ ss) (h2 : ss ≤ 65536) (h3 : 0 ≤ fst) (h4 : fst ≤ lst) (h5 : lst ≤ 1099511627776) (h6 : -1073741824 ≤ number) (h7 : number ≤ 1073741824) :
    Calls Tryf.prog 5 #[.slice da dn dc, .int .i64 ss, .int .i64 num, .int .i64 fst, .int .i64 lst, .int .i64 number, .slice a1 n n, .slice a2 n n, .slice a3 n n] w (ZPost w (chain D ss fst lst 256 fst) LN LF LL number) := by
  have hw0 : 0 < w.heap.size := World.block_lt_of_cell? _ _ ce
  have hw1 : 1 < w.heap.size := World.block_lt_of_cell? _ _ cu
  have hwp : pu.block < w.heap.size := World.block_lt_of_cell? _ _ cs
  have hdl : ∀ db, (Value.slice da dn dc).ownBlock = some db → db < w.heap.size := by
    intro db hdb
    rcases hd with ⟨e, _⟩ | ⟨d', e, hh⟩
    · rw [e] at hdb; simp [Value.ownBlock] at hdb
    · rw [e] at hdb; simp [Value.ownBlock] at hdb; subst hdb; exact (Array.getElem?_eq_some_iff.1 hh).1
  have HDL := hide hdl
  have HR := hide hrows
  have HDI := hide hd
  have HE := hide ce
  have HU := hide cu
  have HC := hide cs
  clear hrows hd ce cu cs hdl
  obtain ⟨Z, hZ, hmk⟩ := make32 n (by omega)
  have HZ := hide hZ
  have HL := hide (And.intro (show (leafV LN LF LL).length = Z.length by rw [hZ, leafV_length LN LF LL (by omega) (by omega), e1]) (fun (k : Nat) (hk : k < n) => leafV_at LN LF LL (by omega) (by omega) k (by omega)))
  clear hZ
  go_enter Tryf.func5, Tryf.ntmps5
  go_wp2
  go_loopw [37] (fun t wr => ∃ k : Nat, k ≤ n ∧ t = .int .i64 k ∧ wr.heap[w.heap.size]? = some (.cells (mix (leafV LN LF LL) Z (k * 3)).toArray 32 (0, 0)) ∧ Kp (fun _ => False) w wr) (fun t _ => n - (intOf t).toNat)
  case atStart => exact ⟨0, by omega, rfl, by rw [show 0 * 3 = 0 from rfl, mix_zero]; exact heap_alloc_new w _, (Kp.refl _ w).alloc _⟩
  case round =>
    obtain ⟨k, hk, rfl, hrow, hkp⟩ := hrel
    by_cases hlt : k < n
    · have hlt' : (k : Int) < (n : Int) := by omega
      obtain ⟨lb, fb, gb, q1, q2, q3, r1, r2, r3⟩ : ∃ lb fb gb, a1 = some ⟨lb, 0, none⟩ ∧ a2 = some ⟨fb, 0, none⟩ ∧ a3 = some ⟨gb, 0, none⟩ ∧ w.heap[lb]? = some (.cells (i64V LN).toArray 3 (0, 0)) ∧ w.heap[fb]? = some (.cells (i64V LF).toArray 2 (0, 0)) ∧ w.heap[gb]? = some (.cells (i64V LL).toArray 2 (0, 0)) := by
        rcases HR.out with h | h
        · omega
        · exact h
      subst q1 q2 q3
      clear HR
      have k1 : lb < w.heap.size := (Array.getElem?_eq_some_iff.1 r1).1
      have k2 : fb < w.heap.size := (Array.getElem?_eq_some_iff.1 r2).1
      have k3 : gb < w.heap.size := (Array.getElem?_eq_some_iff.1 r3).1
      obtain ⟨x1, hx1⟩ : ∃ x, LN.getD k 0 = x := ⟨_, rfl⟩
      obtain ⟨x2, hx2⟩ : ∃ x, LF.getD k 0 = x := ⟨_, rfl⟩
      obtain ⟨x3, hx3⟩ : ∃ x, LL.getD k 0 = x := ⟨_, rfl⟩
      have c1 : wr.cell? ⟨lb, k, none⟩ = some (.int .i64 x1) := by rw [← hx1]; exact hkp.cell (IntRow.cell r1 k (by omega)) (fun f => f)
      have c2 : wr.cell? ⟨fb, k, none⟩ = some (.int .i64 x2) := by rw [← hx2]; exact hkp.cell (IntRow.cell r2 k (by omega)) (fun f => f)
      have c3 : wr.cell? ⟨gb, k, none⟩ = some (.int .i64 x3) := by rw [← hx3]; exact hkp.cell (IntRow.cell r3 k (by omega)) (fun f => f)
      have HX := hide (And.intro hx1 (And.intro hx2 hx3))
      have HROW := hide hrow
      have HK := hide hkp
      have cB : ∀ j, j < n * 3 → wr.cell? ⟨w.heap.size, j, none⟩ = some (cv wr w.heap.size j) := by
        have hh := cvAll hrow
        rw [mix_length _ _ HL.out.1, HZ.out] at hh
        exact hh
      have fB : ∀ j, wr.frozen? ⟨w.heap.size, j, none⟩ = false := fun j => frozen_of_row wr _ j _ _ hrow
      have q0 : k * 3 < n * 3 := by omega
      have q1 : k * 3 + 1 < n * 3 := by omega
      have q2 : k * 3 + 2 < n * 3 := by omega
      have n1 : lb ≠ w.heap.size := by omega
      have n2 : fb ≠ w.heap.size := by omega
      have n3 : gb ≠ w.heap.size := by omega
      clear hrow hkp hx1 hx2 hx3 r1 r2 r3
      go_wp2
      go_region_held3 (fun wx => wx.cell? ⟨lb, k, none⟩ = some (.int .i64 x1) ∧ wx.cell? ⟨fb, k, none⟩ = some (.int .i64 x2) ∧ wx.cell? ⟨gb, k, none⟩ = some (.int .i64 x3) ∧ (∀ j, wx.frozen? ⟨w.heap.size, j, none⟩ = false) ∧ (∀ j, j < n * 3 → wx.cell? ⟨w.heap.size, j, none⟩ = some (cv wx w.heap.size j)))
        (first | exact ⟨c1, c2, c3, fB, cB⟩ | exact (Z5.set n1 n2 n3 _ _ (Z5.set n1 n2 n3 _ _ (Z5.set n1 n2 n3 _ _ (show Z5 _ _ _ _ _ _ _ _ _ wr from ⟨c1, c2, c3, fB, cB⟩)))).drew) (fail)
      go_wp2
      go_roundw
      case rel =>
        obtain ⟨y1, y2, y3⟩ := HL.out.2 k hlt
        rw [HX.out.1] at y1
        rw [HX.out.2.1] at y2
        rw [HX.out.2.2] at y3
        exact ⟨k + 1, by omega, by go_num, mix_step3 HL.out.1 k _ _ _ y1 y2 y3 HROW.out, (((HK.out.setCell (fun h => absurd h (by simp)) _).setCell (fun h => absurd h (by simp)) _).setCell (fun h => absurd h (by simp)) _).drew⟩
      case measure => simp [intOf]; omega
    · obtain rfl : k = n := by omega
      have hrow' : wr.heap[w.heap.size]? = some (.cells (leafV LN LF LL).toArray 32 (0, 0)) := by
        rw [hrow]
        have e : k * 3 = (leafV LN LF LL).length := by rw [HL.out.1, HZ.out]
        rw [e, mix_all _ _ HL.out.1]
      have HROW := hide hrow'
      have HK := hide hkp
      have hszr : w.heap.size < wr.heap.size := (Array.getElem?_eq_some_iff.1 hrow').1
      clear hrow hkp hrow' hmk HR
      go_wp2_with (first | (go_at_call 6; refine (readLogical_any (wr.heap.size + 1) wr.heap.size (.slice da dn dc) D ss num fst lst number (.slice (some ⟨w.heap.size, 0, none⟩) k k) k (leafV LN LF LL) pe pu su _ ?q1 ?q2 ?q3 ?q4 ?q5 ?q6 ?q7 ?s0 ?s1 ?s2 ?s3 ?s4 ?s5 ?h1 ?h2 ?h3 ?h4 ?h5 ?h6 ?h7 ?h8 ?h9).mono ?_) | go_in)
      case q1 => go_simp
      case q2 => exact HDI.out.kp ((HK.out.alloc _).alloc _) (fun _ _ f => f)
      case q3 => exact ((HK.out.alloc _).alloc _).cell HE.out (fun f => f)
      case q4 => exact ((HK.out.alloc _).alloc _).cell HU.out (fun f => f)
      case q5 => exact ((HK.out.alloc _).alloc _).cell HC.out (fun f => f)
      case q6 => exact heap_alloc2_old wr _ _
      case q7 => exact ⟨by rw [leafV_length LN LF LL (by omega) (by omega), e1], .inr ⟨w.heap.size, k, _, rfl, Nat.zero_le _, (((Kp.refl (fun _ => False) wr).alloc _).alloc _).row HROW.out (fun f => f), Nat.le_refl _, by unfold maxLen; omega, by simp [leafV_length LN LF LL (by omega) (by omega), e1], by rw [List.take_of_length_le (by simp [leafV_length LN LF LL (by omega) (by omega), e1])]⟩⟩
      case s0 => exact rls_no hw0 (by omega) (k := 0) rfl
      case s1 => exact rls_no hw1 (by omega) (k := 0) rfl
      case s2 => exact rls_no hwp (by omega) (k := 0) rfl
      case s3 =>
        intro h
        rcases h with h | h
        · omega
        · simp [Value.ownBlock] at h; omega
      case s4 => exact fun db h => rls_no (HDL.out db h) (by omega) (k := 0) rfl
      case s5 => simp [Value.ownBlock]; omega
      case h1 => exact hD
      case h2 => exact h1
      case h3 => exact h2
      case h4 => exact h3
      case h5 => exact h4
      case h6 => exact h5
      case h7 => exact h6
      case h8 => exact h7
      case h9 => exact hn
      rintro e w2 ⟨rv, re, rfl, hok, hbad, hcnt, hkp⟩
      have hcl := chain_length D ss fst lst 256 fst
      obtain ⟨c, hce⟩ : ∃ c, chain D ss fst lst 256 fst = c := ⟨_, rfl⟩
      rw [hce] at hok hbad hcnt hcl
      have HCE := hide hce
      clear hce
      have hk0 : Kp (RLS wr.heap.size (.slice (some ⟨w.heap.size, 0, none⟩) k k)) w w2 := (((HK.out.alloc _).alloc _).mono (fun _ _ f => f.elim)).trans hkp (fun _ _ h => h)
      have hz2 : w.heap.size < w2.heap.size := by have := hkp.size; simp at this; omega
      have hz3 : wr.heap.size < w2.heap.size := by have := hkp.size; simp at this; omega
      have HB2 : Hid (Below w.heap.size w w2) := hk0.below (Nat.le_refl _) (fun i h => by
        rcases h with h | h
        · omega
        · simp [Value.ownBlock] at h; omega)
      have hor : OutRow w2 rv (zzN c LN number) (zzF c LF) (zzL c LL) := outRow_of (re := re) (by omega) (by omega) (by rw [e1]; exact hok) hbad
      have HRE := hide (And.intro (fun h => (hok h).1) (fun h => (hbad h).2))
      have hnl : (zzN c LN number).length ≤ 16640 := by
        unfold zzN
        split
        · simp [numb_length]; omega
        · simp
      have HCN := hide hcnt
      obtain ⟨wo, hwo⟩ : ∃ wo : World, wo = wr := ⟨_, rfl⟩
      subst hwo
      clear hok hbad hk0 hkp hcnt HROW HK HL HZ HDI HE HU HC HDL
      obtain ⟨ra, cap, rfl, l2, l3, hor⟩ := hor
      obtain ⟨N, hN⟩ : ∃ N, zzN c LN number = N := ⟨_, rfl⟩
      obtain ⟨F, hF⟩ : ∃ F, zzF c LF = F := ⟨_, rfl⟩
      obtain ⟨L, hL⟩ : ∃ L, zzL c LL = L := ⟨_, rfl⟩
      rw [hN] at hor l2 l3 hnl
      rw [hF] at hor l2
      rw [hL] at hor l3
      have HEQ := hide (And.intro hN (And.intro hF hL))
      have HOR := hide hor
      rw [hN]
      clear hN hF hL hor
      obtain ⟨m, hm⟩ : ∃ m, N.length = m := ⟨_, rfl⟩
      rw [hm] at l2 l3 hnl HOR ⊢
      obtain ⟨Z1, hZ1, mk1⟩ := make3 m (by omega)
      obtain ⟨Z2, hZ2, mk2⟩ := make2 m (by omega)
      have HZ1 := hide (And.intro hZ1 (And.intro hZ2 (And.intro hm (And.intro l2 l3))))
      clear hZ1 hZ2 hm l2 l3
      go_wp2
      go_loopw [82] (fun t wq => ∃ k : Nat, k ≤ m ∧ t = .int .i64 k ∧ wq.heap[w2.heap.size]? = some (.cells (mix (i64V N) Z1 k).toArray 3 (0, 0)) ∧ wq.heap[w2.heap.size + 1]? = some (.cells (mix (i64V F) Z2 k).toArray 2 (0, 0)) ∧
          wq.heap[w2.heap.size + 1 + 1]? = some (.cells (mix (i64V L) Z2 k).toArray 2 (0, 0)) ∧ Kp (fun _ => False) w2 wq) (fun t _ => m - (intOf t).toNat)
      case atStart =>
        refine ⟨0, by omega, rfl, ?_, ?_, ?_, (((Kp.refl _ w2).alloc _).alloc _).alloc _⟩
        · rw [mix_zero]; exact (((Kp.refl (fun _ => False) (w2.alloc (.cells Z1.toArray 3))).alloc _).alloc _).row (heap_alloc_new w2 _) (fun f => f)
        · rw [mix_zero]; exact ((Kp.refl (fun _ => False) ((w2.alloc (.cells Z1.toArray 3)).alloc (.cells Z2.toArray 2))).alloc _).row (heap_alloc2_new w2 _ _) (fun f => f)
        · rw [mix_zero]
          have h := heap_alloc2_new (w2.alloc (.cells Z1.toArray 3)) (.cells Z2.toArray 2) (.cells Z2.toArray 2)
          rw [show (w2.alloc (.cells Z1.toArray 3)).heap.size = w2.heap.size + 1 from by simp] at h
          exact h
      case round =>
        obtain ⟨q, hq, rfl, r1, r2, r3, hkq⟩ := hrel
        have lN : (i64V N).length = Z1.length := by simp [i64V, HZ1.out.1, HZ1.out.2.2.1]
        have lF : (i64V F).length = Z2.length := by simp [i64V, HZ1.out.2.1, HZ1.out.2.2.2.1]
        have lL : (i64V L).length = Z2.length := by simp [i64V, HZ1.out.2.1, HZ1.out.2.2.2.2]
        have HLN := hide (And.intro lN (And.intro lF lL))
        have sz1 : w2.heap.size + 1 + 1 < wr.heap.size := (Array.getElem?_eq_some_iff.1 r3).1
        by_cases hlt2 : q < m
        · obtain ⟨g, hra, hgl, hcells⟩ : ∃ g, ra = some ⟨g, 0, none⟩ ∧ g < w2.heap.size ∧ ∀ k, k < m → w2.cell? ⟨g, k * 3, none⟩ = some (.int .i64 (N.getD k 0)) ∧ w2.cell? ⟨g, k * 3 + 1, none⟩ = some (.int .i64 (F.getD k 0)) ∧ w2.cell? ⟨g, k * 3 + 2, none⟩ = some (.int .i64 (L.getD k 0)) := by
            rcases HOR.out with h | h
            · omega
            · exact h
          subst hra
          obtain ⟨x1, hx1⟩ : ∃ x, N.getD q 0 = x := ⟨_, rfl⟩
          obtain ⟨x2, hx2⟩ : ∃ x, F.getD q 0 = x := ⟨_, rfl⟩
          obtain ⟨x3, hx3⟩ : ∃ x, L.getD q 0 = x := ⟨_, rfl⟩
          have d1 : wr.cell? ⟨g, q * 3, none⟩ = some (.int .i64 x1) := by rw [← hx1]; exact hkq.cell (hcells q hlt2).1 (fun f => f)
          have d2 : wr.cell? ⟨g, q * 3 + 1, none⟩ = some (.int .i64 x2) := by rw [← hx2]; exact hkq.cell (hcells q hlt2).2.1 (fun f => f)
          have d3 : wr.cell? ⟨g, q * 3 + 2, none⟩ = some (.int .i64 x3) := by rw [← hx3]; exact hkq.cell (hcells q hlt2).2.2 (fun f => f)
          have m1 : (i64V N)[q]? = some (.int .i64 x1) := by rw [← hx1]; simp [i64V, HZ1.out.2.2.1, hlt2]
          have m2 : (i64V F)[q]? = some (.int .i64 x2) := by rw [← hx2]; simp [i64V, HZ1.out.2.2.2.1, hlt2]
          have m3 : (i64V L)[q]? = some (.int .i64 x3) := by rw [← hx3]; simp [i64V, HZ1.out.2.2.2.2, hlt2]
          have t1 : wr.cell? ⟨w2.heap.size, q, none⟩ = some (cv wr w2.heap.size q) := cvAll r1 q (by rw [mix_length _ _ lN, HZ1.out.1]; omega)
          have t2 : wr.cell? ⟨w2.heap.size + 1, q, none⟩ = some (cv wr (w2.heap.size + 1) q) := cvAll r2 q (by rw [mix_length _ _ lF, HZ1.out.2.1]; omega)
          have t3 : wr.cell? ⟨w2.heap.size + 1 + 1, q, none⟩ = some (cv wr (w2.heap.size + 1 + 1) q) := cvAll r3 q (by rw [mix_length _ _ lL, HZ1.out.2.1]; omega)
          have f1 : wr.frozen? ⟨w2.heap.size, q, none⟩ = false := frozen_of_row wr _ q _ _ r1
          have f2 : wr.frozen? ⟨w2.heap.size + 1, q, none⟩ = false := frozen_of_row wr _ q _ _ r2
          have f3 : wr.frozen? ⟨w2.heap.size + 1 + 1, q, none⟩ = false := frozen_of_row wr _ q _ _ r3
          have HM := hide (And.intro m1 (And.intro m2 m3))
          have HRW := hide (And.intro r1 (And.intro r2 r3))
          have HKQ := hide hkq
          have ne1 : ¬ w2.heap.size = g := by omega
          have ne2 : ¬ w2.heap.size + 1 = g := by omega
          have ne3 : ¬ w2.heap.size + 1 + 1 = g := by omega
          have hqm : (q : Int) < (m : Int) := by omega
          clear hcells hx1 hx2 hx3 m1 m2 m3 r1 r2 r3 hkq lN lF lL mk1 mk2
          go_wp2
          go_roundw
          case rel =>
            obtain ⟨v1, v2, v3⟩ := rows3 HRW.out HLN.out HM.out
            exact ⟨q + 1, by omega, by go_num, v1, v2, v3, (((HKQ.out.setCell (p := ⟨w2.heap.size, q, none⟩) (fun h => absurd h (by simp)) _).setCell (p := ⟨w2.heap.size + 1, q, none⟩) (fun h => absurd h (by simp)) _).setCell (p := ⟨w2.heap.size + 1 + 1, q, none⟩) (fun h => absurd h (by simp; omega)) _)⟩
          case measure => simp [intOf]; omega
        · obtain rfl : q = m := by omega
          have HRW := hide (And.intro r1 (And.intro r2 r3))
          have HKQ := hide hkq
          have cc : wr.cell? ⟨wo.heap.size, 0, none⟩ = some (.int .i64 (number + c.1.length)) := hkq.cell ((cell_of_row w2 _ 0 _ _ _ HCN.out).trans rfl) (fun f => f)
          clear r1 r2 r3 hkq lN lF lL mk1 mk2
          go_wp2
          go_quiet (fail)
          go_wp2
          refine bodyPost_ret (v := .tuple #[.slice (some ⟨w2.heap.size, 0, none⟩) q q, .slice (some ⟨w2.heap.size + 1, 0, none⟩) q q, .slice (some ⟨w2.heap.size + 1 + 1, 0, none⟩) q q, .int .i64 (number + c.1.length), re]) (by simp [results, Tryf.results5, go_sem]) rfl ?_
          rw [HCE.out]
          have hB : Below w.heap.size w (wr.drewN nq) := HB2.out.trans (((HKQ.out.drewN nq).below (Nat.le_refl _) (fun _ f => f.elim)).mono (by omega))
          obtain ⟨y1, y2, y3⟩ := HRW.out
          rw [show q = (i64V N).length from by simp [i64V, HZ1.out.2.2.1], mix_all _ _ HLN.out.1] at y1
          rw [show q = (i64V F).length from by simp [i64V, HZ1.out.2.2.2.1], mix_all _ _ HLN.out.2.1] at y2
          rw [show q = (i64V L).length from by simp [i64V, HZ1.out.2.2.2.2], mix_all _ _ HLN.out.2.2] at y3
          unfold ZPost
          rw [HEQ.out.1, HEQ.out.2.1, HEQ.out.2.2, HZ1.out.2.2.1]
          exact ⟨_, _, _, re, rfl, y1, y2, y3, HRE.out.1, HRE.out.2, hB⟩
end Go.Proofs.Qxb6616795aFmt
