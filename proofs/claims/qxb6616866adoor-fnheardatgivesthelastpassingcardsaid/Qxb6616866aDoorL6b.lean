/-
  The law of HeardAt: the table is made and filled.
-/
import Derived.Test.Qxb6616866aDoorL6a
namespace Go.Proofs.Qxb6616866aDoor
open Go.RowKit
set_option linter.unusedVariables false

set_option maxRecDepth 100000 in
set_option maxHeartbeats 4000000 in
theorem t6 (u5 u6 u7 u8 u9 u10 u12 u14 u15 u16 u17 u18 u19 u20 u21 u22 u23 u24 u25 u26 u27 u28 u29 u30 u31 u32 u33 u34 u35 u36 u37 u38 u39 u40 u41 u42 u43 u44 u45 u46 u47 u48 u49 u50 u51 u52 u53 u54 u55 u56 u57 u58 u59 u60 u61 u62 u63 u64 u65 u66 u67 u68 u69 u70 u71 u72 u73 u74 u75 u76 u77 u78 u79 u80 u81 u82 u83 u84 u85 u86 u87 u88 u89 u90 u91 u92 u93 u94 u95 u96 u97 u98 u99 u100 u101 u102 u103 u104 u105 u106 u107 u108 u109 u110 u111 u112 u113 u114 u115 u116 u117 u118 u119 u120 u121 u122 u123 u124 u125 u126 u127 u128 u129 u130 u131 : Value) (a b c : Option Addr) (n0 n1 n2 c0 c1 c2 n : Nat) (qa qp : Int) (A P T : Nat → Int) (C M : Nat) (z : Addr) (W w : World) (hn : n ≤ 4096) (l0 : n ≤ n0) (l1 : n ≤ n1) (l2 : n ≤ n2) (hqa : 0 ≤ qa ∧ qa ≤ 4294967295)
    (hA : RowI W.heap.size w a n0 .u32 A) (hP : RowI W.heap.size w b n1 .u16 P) (hT : RowI W.heap.size w c n2 .i64 T) (bA : ∀ k, k < n0 → 0 ≤ A k ∧ A k ≤ 4294967295) (bT : ∀ k, k < n → -4611686018427387904 ≤ T k ∧ T k ≤ 4611686018427387904)
    (hz : w.cell? ⟨0, 0, none⟩ = some (.pointer (some z))) (hC : w.cell? ⟨C, 34, none⟩ = some (.map (some M))) (hM : Mp z [] M w) (hCM : C ≠ M) (hM0 : M ≠ 0) (hMW : W.heap.size ≤ M) (bel : Below W.heap.size W w) :
    Code.wp Tryd.prog (dropS 6 (Tryd.f3.body.getD .skip)) (bodyPost Tryd.prog Tryd.f3 fun e w' => e = .returned (.bool true) ∧ Below W.heap.size W w') ⟨#[.slice a n0 c0, .slice b n1 c1, .slice c n2 c2, .int .u32 qa, .int .u16 qp, u5, u6, u7, u8, u9, u10, .int .i64 n, u12, .pointer (some ⟨C, 0, none⟩), u14, u15, u16, u17, u18, u19, u20, u21, u22, u23, u24, u25, u26, u27, u28, u29, u30, u31, u32, u33, u34, u35, u36, u37, u38, u39, u40, u41, u42, u43, u44, u45, u46, u47, u48, u49, u50, u51, u52, u53, u54, u55, u56, u57, u58, u59, u60, u61, u62, u63, u64, u65, u66, u67, u68, u69, u70, u71, u72, u73, u74, u75, u76, u77, u78, u79, u80, u81, u82, u83, u84, u85, u86, u87, u88, u89, u90, u91, u92, u93, u94, u95, u96, u97, u98, u99, u100, u101, u102, u103, u104, u105, u106, u107, u108, u109, u110, u111, u112, u113, u114, u115, u116, u117, u118, u119, u120, u121, u122, u123, u124, u125, u126, u127, u128, u129, u130, u131], []⟩ w := by
  have HZ := hide hz
  have HC := hide hC
  have HB := hide bT
  have HA := hide bA
  have HM := hide hM
  have HBEL := hide bel
  have HR := hide (And.intro hA (And.intro hP hT))
  clear hA hP hT bA bT hz hC hM bel
  refine wp_seq (x := headS (dropS 6 (Tryd.f3.body.getD .skip))) (y := (dropS 7 (Tryd.f3.body.getD .skip))) ?_
  conv => arg 2; whnf
  go_wp2
  go_loopw [14] (fun y wr => ∃ i : Nat, i ≤ n ∧ y = .int .i64 i ∧ Mp z (Lf A P T i) M wr ∧ Kp (fun j => j = M) w wr) (fun y _ => n - (intOf y).toNat)
  case atStart => exact ⟨0, by omega, rfl, HM.out, Kp.refl _ _⟩
  case round =>
    obtain ⟨i, hi, rfl, hm0, hk0⟩ := hrel
    have HH := hide (And.intro hm0 hk0)
    clear hm0 hk0
    have HS : ∀ j, j < W.heap.size → ¬ j = M := fun j hj h => by omega
    by_cases hlt : i < n
    · have hlt' : (i : Int) < (n : Int) := by omega
      obtain ⟨xa, ha, ba, ga⟩ := (HR.out.1.kp HH.out.2 HS).at (by omega)
      obtain ⟨xb, hb, bb, gb⟩ := (HR.out.2.1.kp HH.out.2 HS).at (by omega)
      obtain ⟨xc, hc, bc, gc⟩ := (HR.out.2.2.kp HH.out.2 HS).at (by omega)
      subst ha hb hc
      have e1 := ga i (by omega)
      have e2 := gb i (by omega)
      have e3 := gc i (by omega)
      clear ga gb gc
      have i0 : (i : Int) < (n0 : Int) := by omega
      have i1 : (i : Int) < (n1 : Int) := by omega
      have i2 : (i : Int) < (n2 : Int) := by omega
      have bx := HA.out i (by omega)
      have HPs := hide (pass_any C M z (Lf A P T i) (A i) (P i) (T i) wr.drew bx.1 bx.2 (HB.out i hlt) (HH.out.2.cell HZ.out (fun h => hM0 h.symm)) (HH.out.2.cell HC.out hCM) HH.out.1 hCM)
      rw [show upd (A i) (P i) (T i) (Lf A P T i) = Lf A P T (i + 1) from rfl] at HPs
      obtain ⟨ax, hax⟩ : ∃ x, A i = x := ⟨_, rfl⟩
      obtain ⟨px, hpx⟩ : ∃ x, P i = x := ⟨_, rfl⟩
      obtain ⟨tx, htx⟩ : ∃ x, T i = x := ⟨_, rfl⟩
      rw [hax] at e1 HPs
      rw [hpx] at e2 HPs
      rw [htx] at e3 HPs
      have m1 : ¬ (xa.add i).block = M := by rw [add_block]; exact HS _ ba
      have m2 : ¬ (xb.add i).block = M := by rw [add_block]; exact HS _ bb
      have m3 : ¬ (xc.add i).block = M := by rw [add_block]; exact HS _ bc
      clear hax hpx htx bx ba bb bc HS
      go_wp2
      go_region_held3 (fun wx => wx.cell? (xa.add i) = some (.int .u32 ax) ∧ wx.cell? (xb.add i) = some (.int .u16 px) ∧ wx.cell? (xc.add i) = some (.int .i64 tx))
        (first | exact ⟨e1, e2, e3⟩ | exact ⟨hk6.cell e1 m1, hk6.cell e2 m2, hk6.cell e3 m3⟩)
        (first | (go_at_call 7; refine Calls.mono HPs.out ?_; intro e w6 h6; obtain ⟨he6, hm6, hk60⟩ := h6; subst he6; have hk6 : Kp (fun j => j = M) wr w6 := ⟨hk60.os, hk60.tape, hk60.output, hk60.size, hk60.block⟩; clear hk60))
      have H6 := hide (And.intro hm6 (HH.out.2.trans hk6 (fun _ _ h => h)))
      clear hm6 hk6
      go_wp2
      go_roundw
      case rel => exact ⟨i + 1, by omega, by go_num, H6.out.1, H6.out.2⟩
      case measure => (simp [intOf]; try omega)
    · obtain rfl : i = n := by omega
      go_wp2
      obtain ⟨hA, hP, hT⟩ := HR.out
      obtain ⟨hm, hk⟩ := HH.out
      exact t7 _ _ _ _ _ _ _ _ _ _ _ _ _ _ _ _ _ _ _ _ _ _ _ _ _ _ _ _ _ _ _ _ _ _ _ _ _ _ _ _ _ _ _ _ _ _ _ _ _ _ _ _ _ _ _ _ _ _ _ _ _ _ _ _ _ _ _ _ _ _ _ _ _ _ _ _ _ _ _ _ _ _ _ _ _ _ _ _ _ _ _ _ _ _ _ _ _ _ _ _ _ _ _ _ _ _ _ _ _ _ _ _ _ _ _ _ _ _ _ _ _ _ _ _ _ a b c n0 n1 n2 c0 c1 c2 i qa qp A P T C M z W wr hn l0 l1 l2 hqa (hA.kp hk HS) (hP.kp hk HS) (hT.kp hk HS) HA.out HB.out (hk.cell HZ.out (fun h => hM0 h.symm)) (hk.cell HC.out hCM) hm (HBEL.out.trans (hk.below HBEL.out.size (fun j h => by omega)))

set_option maxRecDepth 100000 in
set_option maxHeartbeats 4000000 in
theorem t5 (u5 u6 u7 u8 u9 u10 u12 u13 u14 u15 u16 u17 u18 u19 u20 u21 u22 u23 u24 u25 u26 u27 u28 u29 u30 u31 u32 u33 u34 u35 u36 u37 u38 u39 u40 u41 u42 u43 u44 u45 u46 u47 u48 u49 u50 u51 u52 u53 u54 u55 u56 u57 u58 u59 u60 u61 u62 u63 u64 u65 u66 u67 u68 u69 u70 u71 u72 u73 u74 u75 u76 u77 u78 u79 u80 u81 u82 u83 u84 u85 u86 u87 u88 u89 u90 u91 u92 u93 u94 u95 u96 u97 u98 u99 u100 u101 u102 u103 u104 u105 u106 u107 u108 u109 u110 u111 u112 u113 u114 u115 u116 u117 u118 u119 u120 u121 u122 u123 u124 u125 u126 u127 u128 u129 u130 u131 : Value) (a b c : Option Addr) (n0 n1 n2 c0 c1 c2 n : Nat) (qa qp : Int) (A P T : Nat → Int) (z : Addr) (W w : World) (hn : n ≤ 4096) (l0 : n ≤ n0) (l1 : n ≤ n1) (l2 : n ≤ n2) (hqa : 0 ≤ qa ∧ qa ≤ 4294967295)
    (hA : RowI W.heap.size w a n0 .u32 A) (hP : RowI W.heap.size w b n1 .u16 P) (hT : RowI W.heap.size w c n2 .i64 T) (bA : ∀ k, k < n0 → 0 ≤ A k ∧ A k ≤ 4294967295)
    (hz : w.cell? ⟨0, 0, none⟩ = some (.pointer (some z))) (bel : Below W.heap.size W w) (bT : ∀ k, k < n → -4611686018427387904 ≤ T k ∧ T k ≤ 4611686018427387904) :
    Code.wp Tryd.prog (dropS 5 (Tryd.f3.body.getD .skip)) (bodyPost Tryd.prog Tryd.f3 fun e w' => e = .returned (.bool true) ∧ Below W.heap.size W w') ⟨#[.slice a n0 c0, .slice b n1 c1, .slice c n2 c2, .int .u32 qa, .int .u16 qp, u5, u6, u7, u8, u9, u10, .int .i64 n, u12, u13, u14, u15, u16, u17, u18, u19, u20, u21, u22, u23, u24, u25, u26, u27, u28, u29, u30, u31, u32, u33, u34, u35, u36, u37, u38, u39, u40, u41, u42, u43, u44, u45, u46, u47, u48, u49, u50, u51, u52, u53, u54, u55, u56, u57, u58, u59, u60, u61, u62, u63, u64, u65, u66, u67, u68, u69, u70, u71, u72, u73, u74, u75, u76, u77, u78, u79, u80, u81, u82, u83, u84, u85, u86, u87, u88, u89, u90, u91, u92, u93, u94, u95, u96, u97, u98, u99, u100, u101, u102, u103, u104, u105, u106, u107, u108, u109, u110, u111, u112, u113, u114, u115, u116, u117, u118, u119, u120, u121, u122, u123, u124, u125, u126, u127, u128, u129, u130, u131], []⟩ w := by
  have hz0 : 0 < w.heap.size := World.block_lt_of_cell? _ _ hz
  have HN := hide (newChecks_any w)
  have HR := hide (And.intro hA (And.intro hP (And.intro hT (And.intro bA (And.intro hz (And.intro bel bT))))))
  clear hA hP hT bA hz bel bT
  refine wp_seq (x := headS (dropS 5 (Tryd.f3.body.getD .skip))) (y := (dropS 6 (Tryd.f3.body.getD .skip))) ?_
  conv => arg 2; whnf
  go_wp2_with (go_at_call 6; refine HN.out.mono ?_)
  rintro e w1 ⟨C, M, he, hC, hM, g1, g2, g3, hk⟩
  subst he
  have HH := hide (And.intro hC (And.intro hM hk))
  clear hC hM hk HN
  go_wp2
  obtain ⟨hA, hP, hT, bA, hz, bel, bT⟩ := HR.out
  obtain ⟨hC, hM, hk⟩ := HH.out
  have hs := bel.size
  exact t6 _ _ _ _ _ _ _ _ _ _ _ _ _ _ _ _ _ _ _ _ _ _ _ _ _ _ _ _ _ _ _ _ _ _ _ _ _ _ _ _ _ _ _ _ _ _ _ _ _ _ _ _ _ _ _ _ _ _ _ _ _ _ _ _ _ _ _ _ _ _ _ _ _ _ _ _ _ _ _ _ _ _ _ _ _ _ _ _ _ _ _ _ _ _ _ _ _ _ _ _ _ _ _ _ _ _ _ _ _ _ _ _ _ _ _ _ _ _ _ _ _ _ _ _ _ a b c n0 n1 n2 c0 c1 c2 n qa qp A P T C M z W w1 hn l0 l1 l2 hqa (hA.kp hk (fun _ _ f => f)) (hP.kp hk (fun _ _ f => f)) (hT.kp hk (fun _ _ f => f)) bA bT (hk.cell hz (fun f => f)) hC (hM z) g3 (by omega) (by omega) (kp_below bel hk)

set_option maxRecDepth 100000 in
set_option maxHeartbeats 4000000 in
theorem t4 (u5 u6 u7 u8 u9 u10 u12 u13 u14 u15 u16 u17 u18 u19 u20 u21 u22 u23 u24 u25 u26 u27 u28 u29 u30 u31 u32 u33 u34 u35 u36 u37 u38 u39 u40 u41 u42 u43 u44 u45 u46 u47 u48 u49 u50 u51 u52 u53 u54 u55 u56 u57 u58 u59 u60 u61 u62 u63 u64 u65 u66 u67 u68 u69 u70 u71 u72 u73 u74 u75 u76 u77 u78 u79 u80 u81 u82 u83 u84 u85 u86 u87 u88 u89 u90 u91 u92 u93 u94 u95 u96 u97 u98 u99 u100 u101 u102 u103 u104 u105 u106 u107 u108 u109 u110 u111 u112 u113 u114 u115 u116 u117 u118 u119 u120 u121 u122 u123 u124 u125 u126 u127 u128 u129 u130 u131 : Value) (a b c : Option Addr) (n0 n1 n2 c0 c1 c2 n : Nat) (qa qp : Int) (A P T : Nat → Int) (z : Addr) (W w : World) (hn : n ≤ 4096) (l0 : n ≤ n0) (l1 : n ≤ n1) (l2 : n ≤ n2) (hqa : 0 ≤ qa ∧ qa ≤ 4294967295)
    (hA : RowI W.heap.size w a n0 .u32 A) (hP : RowI W.heap.size w b n1 .u16 P) (hT : RowI W.heap.size w c n2 .i64 T) (bA : ∀ k, k < n0 → 0 ≤ A k ∧ A k ≤ 4294967295)
    (hz : w.cell? ⟨0, 0, none⟩ = some (.pointer (some z))) (bel : Below W.heap.size W w) :
    Code.wp Tryd.prog (dropS 4 (Tryd.f3.body.getD .skip)) (bodyPost Tryd.prog Tryd.f3 fun e w' => e = .returned (.bool true) ∧ Below W.heap.size W w') ⟨#[.slice a n0 c0, .slice b n1 c1, .slice c n2 c2, .int .u32 qa, .int .u16 qp, u5, u6, u7, u8, u9, u10, .int .i64 n, u12, u13, u14, u15, u16, u17, u18, u19, u20, u21, u22, u23, u24, u25, u26, u27, u28, u29, u30, u31, u32, u33, u34, u35, u36, u37, u38, u39, u40, u41, u42, u43, u44, u45, u46, u47, u48, u49, u50, u51, u52, u53, u54, u55, u56, u57, u58, u59, u60, u61, u62, u63, u64, u65, u66, u67, u68, u69, u70, u71, u72, u73, u74, u75, u76, u77, u78, u79, u80, u81, u82, u83, u84, u85, u86, u87, u88, u89, u90, u91, u92, u93, u94, u95, u96, u97, u98, u99, u100, u101, u102, u103, u104, u105, u106, u107, u108, u109, u110, u111, u112, u113, u114, u115, u116, u117, u118, u119, u120, u121, u122, u123, u124, u125, u126, u127, u128, u129, u130, u131], []⟩ w := by
  have HR := hide (And.intro hA (And.intro hP (And.intro hT (And.intro bA (And.intro hz bel)))))
  clear hA hP hT bA hz bel
  refine wp_seq (x := headS (dropS 4 (Tryd.f3.body.getD .skip))) (y := (dropS 5 (Tryd.f3.body.getD .skip))) ?_
  conv => arg 2; whnf
  go_wp2
  go_loopw [12] (fun y wr => ∃ i : Nat, i ≤ n ∧ y = .int .i64 i ∧ (∀ k, k < i → -4611686018427387904 ≤ T k ∧ T k ≤ 4611686018427387904) ∧ wr = w) (fun y _ => n - (intOf y).toNat)
  case atStart => exact ⟨0, by omega, rfl, fun k hk => absurd hk (by omega), rfl⟩
  case round =>
    obtain ⟨i, hi, rfl, hb, rfl⟩ := hrel
    have HB := hide hb
    clear hb
    by_cases hlt : i < n
    · have hlt' : (i : Int) < (n : Int) := by omega
      obtain ⟨xc, hc, _, gc⟩ := HR.out.2.2.1.at (by omega)
      subst hc
      have e3 := gc i (by omega)
      clear gc
      have i2 : (i : Int) < (n2 : Int) := by omega
      obtain ⟨tx, htx⟩ : ∃ x, T i = x := ⟨_, rfl⟩
      rw [htx] at e3
      have HX := hide htx
      clear htx
      by_cases h1 : tx < -4611686018427387904
      · go_wp2
        go_ret
        exact ⟨rfl, HR.out.2.2.2.2.2⟩
      · by_cases h2 : 4611686018427387904 < tx
        · go_wp2
          go_ret
          exact ⟨rfl, HR.out.2.2.2.2.2⟩
        · go_wp2
          go_roundw
          case rel =>
            refine ⟨i + 1, by omega, by go_num, fun k hk => ?_, by trivial⟩
            rcases Nat.lt_or_ge k i with h | h
            · exact HB.out k h
            · obtain rfl : k = i := by omega
              rw [HX.out]
              omega
          case measure => (simp [intOf]; try omega)
    · obtain rfl : i = n := by omega
      go_wp2
      obtain ⟨hA, hP, hT, bA, hz, bel⟩ := HR.out
      exact t5 _ _ _ _ _ _ _ _ _ _ _ _ _ _ _ _ _ _ _ _ _ _ _ _ _ _ _ _ _ _ _ _ _ _ _ _ _ _ _ _ _ _ _ _ _ _ _ _ _ _ _ _ _ _ _ _ _ _ _ _ _ _ _ _ _ _ _ _ _ _ _ _ _ _ _ _ _ _ _ _ _ _ _ _ _ _ _ _ _ _ _ _ _ _ _ _ _ _ _ _ _ _ _ _ _ _ _ _ _ _ _ _ _ _ _ _ _ _ _ _ _ _ _ _ _ _ a b c n0 n1 n2 c0 c1 c2 i qa qp A P T z W _ hn l0 l1 l2 hqa hA hP hT bA hz bel HB.out

end Go.Proofs.Qxb6616866aDoor
