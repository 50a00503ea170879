/-
  The law of HeardAt: the last loop.
-/
import Derived.Test.Qxb6616866aDoorOps
namespace Go.Proofs.Qxb6616866aDoor
open Go.RowKit
set_option linter.unusedVariables false

/-- A slice of integers that came in, in blocks below B. -/
def RowI (B : Nat) (w : World) (a : Option Addr) (n : Nat) (k : IntKind) (f : Nat → Int) : Prop :=
  n = 0 ∨ ∃ x, a = some x ∧ x.block < B ∧ ∀ j, j < n → w.cell? (x.add j) = some (.int k (f j))
theorem add_block (x : Addr) (j : Nat) : (x.add j).block = x.block := by unfold Addr.add; split <;> rfl
theorem RowI.kp {B : Nat} {w w' : World} {a : Option Addr} {n : Nat} {k : IntKind} {f : Nat → Int} (h : RowI B w a n k f) {S : Nat → Prop} (hk : Kp S w w') (hs : ∀ j, j < B → ¬ S j) : RowI B w' a n k f := by
  rcases h with h | ⟨x, h1, h2, h3⟩
  · exact .inl h
  · exact .inr ⟨x, h1, h2, fun j hj => hk.cell (h3 j hj) (by rw [add_block]; exact hs _ h2)⟩
theorem RowI.at {B : Nat} {w : World} {a : Option Addr} {n : Nat} {k : IntKind} {f : Nat → Int} (h : RowI B w a n k f) (hn : 0 < n) : ∃ x, a = some x ∧ x.block < B ∧ ∀ j, j < n → w.cell? (x.add j) = some (.int k (f j)) := by
  rcases h with h | h
  · omega
  · exact h
theorem kp_below {W w w' : World} (h : Below W.heap.size W w) (hk : Kp (fun _ => False) w w') : Below W.heap.size W w' := h.trans ((hk.below (Nat.le_refl _) (fun _ f => f.elim)).mono h.size)
/-- The passings told so far. -/
def Lf (A P T : Nat → Int) : Nat → List (Int × Int × Int)
  | 0 => []
  | k + 1 => upd (A k) (P k) (T k) (Lf A P T k)
theorem look_hit (A P T : Nat → Int) (k : Nat) : look (A k) (P k) (Lf A P T (k + 1)) = some (T k) := by
  rw [Lf, look_upd, if_pos ⟨rfl, rfl⟩]
theorem look_miss (A P T : Nat → Int) (k : Nat) (a p : Int) (h : ¬ (a = A k ∧ p = P k)) : look a p (Lf A P T (k + 1)) = look a p (Lf A P T k) := by
  rw [Lf, look_upd, if_neg h]
theorem look_bd (A P T : Nat → Int) (n : Nat) (a p : Int) (h : ∀ k, k < n → -4611686018427387904 ≤ T k ∧ T k ≤ 4611686018427387904) : -4611686018427387904 ≤ (look a p (Lf A P T n)).getD 0 ∧ (look a p (Lf A P T n)).getD 0 ≤ 4611686018427387904 := by
  induction n with
  | zero => simp [Lf, look]
  | succ n ih =>
    by_cases e : a = A n ∧ p = P n
    · rw [e.1, e.2, look_hit]
      exact h n (by omega)
    · rw [look_miss _ _ _ _ _ _ e]
      exact ih (fun k hk => h k (by omega))

set_option maxRecDepth 100000 in
set_option maxHeartbeats 4000000 in
theorem t7 (u5 u6 u7 u8 u9 u10 u12 u14 u15 u16 u17 u18 u19 u20 u21 u22 u23 u24 u25 u26 u27 u28 u29 u30 u31 u32 u33 u34 u35 u36 u37 u38 u39 u40 u41 u42 u43 u44 u45 u46 u47 u48 u49 u50 u51 u52 u53 u54 u55 u56 u57 u58 u59 u60 u61 u62 u63 u64 u65 u66 u67 u68 u69 u70 u71 u72 u73 u74 u75 u76 u77 u78 u79 u80 u81 u82 u83 u84 u85 u86 u87 u88 u89 u90 u91 u92 u93 u94 u95 u96 u97 u98 u99 u100 u101 u102 u103 u104 u105 u106 u107 u108 u109 u110 u111 u112 u113 u114 u115 u116 u117 u118 u119 u120 u121 u122 u123 u124 u125 u126 u127 u128 u129 u130 u131 : Value) (a b c : Option Addr) (n0 n1 n2 c0 c1 c2 n : Nat) (qa qp : Int) (A P T : Nat → Int) (C M : Nat) (z : Addr) (W w : World) (hn : n ≤ 4096) (l0 : n ≤ n0) (l1 : n ≤ n1) (l2 : n ≤ n2) (hqa : 0 ≤ qa ∧ qa ≤ 4294967295)
    (hA : RowI W.heap.size w a n0 .u32 A) (hP : RowI W.heap.size w b n1 .u16 P) (hT : RowI W.heap.size w c n2 .i64 T) (bA : ∀ k, k < n0 → 0 ≤ A k ∧ A k ≤ 4294967295) (bT : ∀ k, k < n → -4611686018427387904 ≤ T k ∧ T k ≤ 4611686018427387904)
    (hz : w.cell? ⟨0, 0, none⟩ = some (.pointer (some z))) (hC : w.cell? ⟨C, 34, none⟩ = some (.map (some M))) (hM : Mp z (Lf A P T n) M w) (bel : Below W.heap.size W w) :
    Code.wp Tryd.prog (dropS 7 (Tryd.f3.body.getD .skip)) (bodyPost Tryd.prog Tryd.f3 fun e w' => e = .returned (.bool true) ∧ Below W.heap.size W w') ⟨#[.slice a n0 c0, .slice b n1 c1, .slice c n2 c2, .int .u32 qa, .int .u16 qp, u5, u6, u7, u8, u9, u10, .int .i64 n, u12, .pointer (some ⟨C, 0, none⟩), u14, u15, u16, u17, u18, u19, u20, u21, u22, u23, u24, u25, u26, u27, u28, u29, u30, u31, u32, u33, u34, u35, u36, u37, u38, u39, u40, u41, u42, u43, u44, u45, u46, u47, u48, u49, u50, u51, u52, u53, u54, u55, u56, u57, u58, u59, u60, u61, u62, u63, u64, u65, u66, u67, u68, u69, u70, u71, u72, u73, u74, u75, u76, u77, u78, u79, u80, u81, u82, u83, u84, u85, u86, u87, u88, u89, u90, u91, u92, u93, u94, u95, u96, u97, u98, u99, u100, u101, u102, u103, u104, u105, u106, u107, u108, u109, u110, u111, u112, u113, u114, u115, u116, u117, u118, u119, u120, u121, u122, u123, u124, u125, u126, u127, u128, u129, u130, u131], []⟩ w := by
  have HZ := hide hz
  have HC := hide hC
  have HM := hide hM
  have HB := hide bT
  have HA := hide bA
  have HBEL := hide bel
  have HR := hide (And.intro hA (And.intro hP hT))
  obtain ⟨hq0, hq1⟩ := hqa
  clear hA hP hT bA bT hz hC hM bel
  refine wp_seq (x := headS (dropS 7 (Tryd.f3.body.getD .skip))) (y := (dropS 8 (Tryd.f3.body.getD .skip))) ?_
  conv => arg 2; whnf
  go_wp2
  go_loopw [15] (fun y wr => ∃ i : Nat, i ≤ n + 1 ∧ y = .int .i64 i ∧ Kp (fun _ => False) w wr) (fun y _ => n + 1 - (intOf y).toNat)
  case atStart => exact ⟨0, by omega, rfl, Kp.refl _ _⟩
  case round =>
    obtain ⟨i, hi, rfl, hk0⟩ := hrel
    have HH := hide (And.intro hk0 trivial)
    clear hk0
    by_cases hlt : i < n
    · have hlt' : (i : Int) < (n : Int) := by omega
      obtain ⟨xa, ha, _, ga⟩ := (HR.out.1.kp HH.out.1 (fun _ _ f => f)).at (by omega)
      obtain ⟨xb, hb, _, gb⟩ := (HR.out.2.1.kp HH.out.1 (fun _ _ f => f)).at (by omega)
      subst ha hb
      have e1 := ga i (by omega)
      have e2 := gb i (by omega)
      clear ga gb
      have i0 : (i : Int) < (n0 : Int) := by omega
      have i1 : (i : Int) < (n1 : Int) := by omega
      have bx := HA.out i (by omega)
      obtain ⟨ax, hax⟩ : ∃ x, A i = x := ⟨_, rfl⟩
      obtain ⟨px, hpx⟩ : ∃ x, P i = x := ⟨_, rfl⟩
      rw [hax] at e1 bx
      rw [hpx] at e2
      obtain ⟨bx1, bx2⟩ := bx
      clear hax hpx
      go_wp2
      go_loopw [18, 19] (fun s y wq => ∃ k : Nat, k ≤ n ∧ s = .int .i64 0 ∧ y = .int .i64 ((k : Int) - 1) ∧ look ax px (Lf A P T n) = look ax px (Lf A P T k) ∧ wq = wr) (fun _ y _ => (intOf y + 1).toNat)
      case atStart => exact ⟨n, Nat.le_refl _, rfl, by go_num, rfl, rfl⟩
      case round =>
        obtain ⟨k, hk, rfl, rfl, hlk0, rfl⟩ := hrel
        have HLK := hide hlk0
        clear hlk0
        by_cases hk0 : k = 0
        · subst hk0
          have hlk : (look ax px (Lf A P T n)).getD 0 = 0 := by rw [HLK.out]; rfl
          have hbd : -4611686018427387904 ≤ (0 : Int) ∧ (0 : Int) ≤ 4611686018427387904 := by omega
          have HW := hide (zzHeardAt_any C M z (Lf A P T n) ax px 0 wr bx1 bx2 (HH.out.1.cell HZ.out (fun f => f)) (HH.out.1.cell HC.out (fun f => f)) (HM.out.kp HH.out.1 (fun f => f)) hlk hbd)
          go_wp2_with (go_at_call 8; refine HW.out.mono ?_)
          first | (intro e w6 h6 k6; subst h6) | (rintro e w6 ⟨h6, k6⟩; subst h6)
          have K6 := hide k6
          clear k6 HW
          go_wp2
          go_roundw
          case rel => exact ⟨i + 1, by omega, by go_num, HH.out.1.trans K6.out (fun _ _ f => f)⟩
          case measure => (simp [intOf]; try omega)
        · obtain ⟨k, rfl⟩ : ∃ k', k = k' + 1 := ⟨k - 1, by omega⟩
          have e0 : (((k + 1 : Nat) : Int) - 1) = (k : Int) := by omega
          rw [e0]
          clear e0
          obtain ⟨xa, ha, _, ga⟩ := (HR.out.1.kp HH.out.1 (fun _ _ f => f)).at (by omega)
          obtain ⟨xb, hb, _, gb⟩ := (HR.out.2.1.kp HH.out.1 (fun _ _ f => f)).at (by omega)
          obtain ⟨xc, hc, _, gc⟩ := (HR.out.2.2.kp HH.out.1 (fun _ _ f => f)).at (by omega)
          cases ha
          cases hb
          cases hc
          have e1 := ga k (by omega)
          have e2 := gb k (by omega)
          have e3 := gc k (by omega)
          clear ga gb gc
          have i0 : (k : Int) < (n0 : Int) := by omega
          have i1 : (k : Int) < (n1 : Int) := by omega
          have i2 : (k : Int) < (n2 : Int) := by omega
          have j0 : k < n0 := by omega
          have j1 : k < n1 := by omega
          have j2 : k < n2 := by omega
          have hit : A k = ax → P k = px → look ax px (Lf A P T (k + 1)) = some (T k) := fun h1 h2 => by rw [← h1, ← h2]; exact look_hit A P T k
          have miss : ¬ (ax = A k ∧ px = P k) → look ax px (Lf A P T (k + 1)) = look ax px (Lf A P T k) := look_miss A P T k ax px
          have HI := hide (And.intro hit miss)
          have hbT := HB.out k (by omega)
          clear hit miss
          obtain ⟨x, hx⟩ : ∃ x, A k = x := ⟨_, rfl⟩
          obtain ⟨y, hy⟩ : ∃ y, P k = y := ⟨_, rfl⟩
          obtain ⟨v, hv⟩ : ∃ v, T k = v := ⟨_, rfl⟩
          rw [hx] at e1 HI
          rw [hy] at e2 HI
          rw [hv] at e3 HI hbT
          clear hx hy hv
          by_cases hxa : x = ax
          · by_cases hyp : y = px
            · have hlk : (look ax px (Lf A P T n)).getD 0 = v := by rw [HLK.out, HI.out.1 hxa hyp]; rfl
              have hbd := hbT
              have hxb : (x == ax) = true := by simpa using hxa
              have hyb : (y == px) = true := by simpa using hyp
              have HW := hide (zzHeardAt_any C M z (Lf A P T n) ax px v wr bx1 bx2 (HH.out.1.cell HZ.out (fun f => f)) (HH.out.1.cell HC.out (fun f => f)) (HM.out.kp HH.out.1 (fun f => f)) hlk hbd)
              go_wp2_with (go_at_call 8; refine HW.out.mono ?_)
              first | (intro e w6 h6 k6; subst h6) | (rintro e w6 ⟨h6, k6⟩; subst h6)
              have K6 := hide k6
              clear k6 HW
              go_wp2
              go_roundw
              case rel => exact ⟨i + 1, by omega, by go_num, HH.out.1.trans K6.out (fun _ _ f => f)⟩
              case measure => (simp [intOf]; try omega)
            · have hxb : (x == ax) = true := by simpa using hxa
              have hyb : (y == px) = false := by simpa using hyp
              go_wp2
              go_roundw
              case rel => exact ⟨k, by omega, rfl, by go_num, HLK.out.trans (HI.out.2 (fun h => hyp h.2.symm)), by trivial⟩
              case measure => (simp [intOf]; try omega)
          · have hxb : (x == ax) = false := by simpa using hxa
            go_wp2
            go_roundw
            case rel => exact ⟨k, by omega, rfl, by go_num, HLK.out.trans (HI.out.2 (fun h => hxa h.1.symm)), by trivial⟩
            case measure => (simp [intOf]; try omega)
    · by_cases hin : i = n
      · have hlt' : ¬ (i : Int) < (n : Int) := by omega
        have hle' : (i : Int) ≤ (n : Int) := by omega
        go_wp2
        go_loopw [18, 19] (fun s y wq => ∃ k : Nat, k ≤ n ∧ s = .int .i64 0 ∧ y = .int .i64 ((k : Int) - 1) ∧ look qa qp (Lf A P T n) = look qa qp (Lf A P T k) ∧ wq = wr) (fun _ y _ => (intOf y + 1).toNat)
        case atStart => exact ⟨n, Nat.le_refl _, rfl, by go_num, rfl, rfl⟩
        case round =>
          obtain ⟨k, hk, rfl, rfl, hlk0, rfl⟩ := hrel
          have HLK := hide hlk0
          clear hlk0
          by_cases hk0 : k = 0
          · subst hk0
            have hlk : (look qa qp (Lf A P T n)).getD 0 = 0 := by rw [HLK.out]; rfl
            have hbd : -4611686018427387904 ≤ (0 : Int) ∧ (0 : Int) ≤ 4611686018427387904 := by omega
            have HW := hide (zzHeardAt_any C M z (Lf A P T n) qa qp 0 wr hq0 hq1 (HH.out.1.cell HZ.out (fun f => f)) (HH.out.1.cell HC.out (fun f => f)) (HM.out.kp HH.out.1 (fun f => f)) hlk hbd)
            go_wp2_with (go_at_call 8; refine HW.out.mono ?_)
            first | (intro e w6 h6 k6; subst h6) | (rintro e w6 ⟨h6, k6⟩; subst h6)
            have K6 := hide k6
            clear k6 HW
            go_wp2
            go_roundw
            case rel => exact ⟨i + 1, by omega, by go_num, HH.out.1.trans K6.out (fun _ _ f => f)⟩
            case measure => (simp [intOf]; try omega)
          · obtain ⟨k, rfl⟩ : ∃ k', k = k' + 1 := ⟨k - 1, by omega⟩
            have e0 : (((k + 1 : Nat) : Int) - 1) = (k : Int) := by omega
            rw [e0]
            clear e0
            obtain ⟨xa, ha, _, ga⟩ := (HR.out.1.kp HH.out.1 (fun _ _ f => f)).at (by omega)
            obtain ⟨xb, hb, _, gb⟩ := (HR.out.2.1.kp HH.out.1 (fun _ _ f => f)).at (by omega)
            obtain ⟨xc, hc, _, gc⟩ := (HR.out.2.2.kp HH.out.1 (fun _ _ f => f)).at (by omega)
            cases ha
            cases hb
            cases hc
            have e1 := ga k (by omega)
            have e2 := gb k (by omega)
            have e3 := gc k (by omega)
            clear ga gb gc
            have i0 : (k : Int) < (n0 : Int) := by omega
            have i1 : (k : Int) < (n1 : Int) := by omega
            have i2 : (k : Int) < (n2 : Int) := by omega
            have j0 : k < n0 := by omega
            have j1 : k < n1 := by omega
            have j2 : k < n2 := by omega
            have hit : A k = qa → P k = qp → look qa qp (Lf A P T (k + 1)) = some (T k) := fun h1 h2 => by rw [← h1, ← h2]; exact look_hit A P T k
            have miss : ¬ (qa = A k ∧ qp = P k) → look qa qp (Lf A P T (k + 1)) = look qa qp (Lf A P T k) := look_miss A P T k qa qp
            have HI := hide (And.intro hit miss)
            have hbT := HB.out k (by omega)
            clear hit miss
            obtain ⟨x, hx⟩ : ∃ x, A k = x := ⟨_, rfl⟩
            obtain ⟨y, hy⟩ : ∃ y, P k = y := ⟨_, rfl⟩
            obtain ⟨v, hv⟩ : ∃ v, T k = v := ⟨_, rfl⟩
            rw [hx] at e1 HI
            rw [hy] at e2 HI
            rw [hv] at e3 HI hbT
            clear hx hy hv
            by_cases hxa : x = qa
            · by_cases hyp : y = qp
              · have hlk : (look qa qp (Lf A P T n)).getD 0 = v := by rw [HLK.out, HI.out.1 hxa hyp]; rfl
                have hbd := hbT
                have hxb : (x == qa) = true := by simpa using hxa
                have hyb : (y == qp) = true := by simpa using hyp
                have HW := hide (zzHeardAt_any C M z (Lf A P T n) qa qp v wr hq0 hq1 (HH.out.1.cell HZ.out (fun f => f)) (HH.out.1.cell HC.out (fun f => f)) (HM.out.kp HH.out.1 (fun f => f)) hlk hbd)
                go_wp2_with (go_at_call 8; refine HW.out.mono ?_)
                first | (intro e w6 h6 k6; subst h6) | (rintro e w6 ⟨h6, k6⟩; subst h6)
                have K6 := hide k6
                clear k6 HW
                go_wp2
                go_roundw
                case rel => exact ⟨i + 1, by omega, by go_num, HH.out.1.trans K6.out (fun _ _ f => f)⟩
                case measure => (simp [intOf]; try omega)
              · have hxb : (x == qa) = true := by simpa using hxa
                have hyb : (y == qp) = false := by simpa using hyp
                go_wp2
                go_roundw
                case rel => exact ⟨k, by omega, rfl, by go_num, HLK.out.trans (HI.out.2 (fun h => hyp h.2.symm)), by trivial⟩
                case measure => (simp [intOf]; try omega)
            · have hxb : (x == qa) = false := by simpa using hxa
              go_wp2
              go_roundw
              case rel => exact ⟨k, by omega, rfl, by go_num, HLK.out.trans (HI.out.2 (fun h => hxa h.1.symm)), by trivial⟩
              case measure => (simp [intOf]; try omega)
      · have hle' : ¬ (i : Int) ≤ (n : Int) := by omega
        go_wp2
        conv => arg 2; whnf
        go_wp2
        go_ret
        exact ⟨rfl, kp_below HBEL.out HH.out.1⟩

end Go.Proofs.Qxb6616866aDoor
