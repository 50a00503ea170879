/-
  'ZZb1InParts' and the law.
-/
import Derived.Test.Qxb6616866aParts
namespace Go.Proofs.Qxb6616866a
open Go.RowKit

/-- What ZZb1InParts hands back. -/
def ZPost (N g off n cap q : Nat) (w : World) (e : Ending) (w' : World) : Prop :=
  ∃ g1 c1 g2 c2, e = .returned (.tuple #[.slice (some ⟨g1, 0, none⟩) q c1, .slice (some ⟨g2, 0, none⟩) q c2]) ∧ w'.ownsRow N 3 1 (.slice (some ⟨g1, 0, none⟩) q c1) q (fL q) ∧ w'.ownsRow N 22 1 (.slice (some ⟨g2, 0, none⟩) q c2) q (gL g off n cap q) ∧ Below N w w'

set_option maxRecDepth 100000 in
set_option maxHeartbeats 1000000 in
theorem zz_any (g off n cap : Nat) (w : World) (h0 : 0 < n) (hn : n ≤ 1048576) (hcap : n ≤ cap) (hcap2 : cap ≤ 1048576) :
    Calls Try.prog 7 #[.slice (some ⟨g, off, none⟩) n cap] w fun e w' => ZPost w.heap.size g off n cap ((n + 1184) / 1185) w e w' := by
  have hmf : ∀ (fn : Fn) (first cap : Array Value) (w : World), (Instr.makeFunc fn first cap).run Try.prog w = .ok (.func fn first cap) w := fun _ _ _ _ => rfl
  have hG : Gat w.heap.size ((w.alloc (.cells #[.slice none 0 0] 25)).alloc (.cells #[.slice none 0 0] 26)) w.heap.size (w.heap.size + 1) 0 [] [] := by
    refine ⟨Nat.le_refl _, Nat.le_succ _, .slice none 0 0, .slice none 0 0, ?_, ?_, World.ownsRow_nil _ _ _ _, World.ownsRow_nil _ _ _ _⟩
    · exact (Below.heap_alloc _ _ _ (by simp)).trans (heap_alloc_new w _)
    · have := heap_alloc_new (w.alloc (.cells #[.slice none 0 0] 25)) (.cells #[.slice none 0 0] 26)
      simpa using this
  have HG := hide hG
  clear hG
  have HW := hide (((Below.refl w.heap.size w).alloc (Nat.le_refl _) (.cells #[.slice none 0 0] 25)).alloc (by simp) (.cells #[.slice none 0 0] 26))
  have hq0 : 0 < (n + 1184) / 1185 := by omega
  have C := in_any w.heap.size w.heap.size (w.heap.size + 1) g off n cap _ h0 hn hcap hcap2 HG.out
  obtain ⟨q, hq⟩ : ∃ q, (n + 1184) / 1185 = q := ⟨_, rfl⟩
  rw [hq] at hq0 C
  rw [hq]
  have HC := hide C
  clear C hq
  go_enter Try.func7, Try.ntmps7
  go_wp2_with (go_at_call 10; refine HC.out.mono ?_)
  rintro e w1 ⟨rfl, ⟨_, _, v1, v2, h1, h2, o1, o2⟩, hb⟩
  obtain ⟨g1, c1, rfl, _, _⟩ := o1.form hq0
  obtain ⟨g2, c2, rfl, _, _⟩ := o2.form hq0
  have a1 := cell_of_one h1
  have a2 := cell_of_one h2
  have f1 := free_of_one h1
  have f2 := free_of_one h2
  have n1 := row_type o1 h1 (by decide)
  have n2 := row_type o1 h2 (by decide)
  have n3 := row_type o2 h1 (by decide)
  have n4 := row_type o2 h2 (by decide)
  have E1 := cell_of_one ((Below.heap_setCell (w1.setCell ⟨w.heap.size, 0, none⟩ (.slice (some ⟨g1, 0, none⟩) q c1)) ⟨w.heap.size + 1, 0, none⟩ (.slice (some ⟨g2, 0, none⟩) q c2) w.heap.size (by simp)).trans (one_setCell h1))
  have E2 := cell_of_one (one_setCell (u := .slice (some ⟨g2, 0, none⟩) q c2) ((Below.heap_setCell w1 ⟨w.heap.size, 0, none⟩ (.slice (some ⟨g1, 0, none⟩) q c1) (w.heap.size + 1) (by simp)).trans h2))
  have P1 := hide (ownsRow_setCell_other (ownsRow_setCell_other o1 (a := ⟨w.heap.size, 0, none⟩) n1 (.slice (some ⟨g1, 0, none⟩) q c1)) (a := ⟨w.heap.size + 1, 0, none⟩) n2 (.slice (some ⟨g2, 0, none⟩) q c2))
  have P2 := hide (ownsRow_setCell_other (ownsRow_setCell_other o2 (a := ⟨w.heap.size, 0, none⟩) n3 (.slice (some ⟨g1, 0, none⟩) q c1)) (a := ⟨w.heap.size + 1, 0, none⟩) n4 (.slice (some ⟨g2, 0, none⟩) q c2))
  have P3 := hide (((HW.out.trans hb).setCell (p := ⟨w.heap.size, 0, none⟩) (Nat.le_refl _) (.slice (some ⟨g1, 0, none⟩) q c1)).setCell (p := ⟨w.heap.size + 1, 0, none⟩) (Nat.le_succ _) (.slice (some ⟨g2, 0, none⟩) q c2))
  clear h1 h2 o1 o2 hb n1 n2 n3 n4 HG HW
  go_wp2
  go_region
  all_goals (try go_wp2)
  all_goals refine bodyPost_ret (v := .tuple #[.slice (some ⟨g1, 0, none⟩) q c1, .slice (some ⟨g2, 0, none⟩) q c2]) (by simp [results, Try.results7, go_sem, E1, E2]) rfl ?_
  all_goals exact ⟨_, _, _, _, rfl, P1.out, P2.out, P3.out.drew⟩

theorem zz_q (g off n cap q : Nat) (w : World) (h0 : 0 < n) (hn : n ≤ 1048576) (hcap : n ≤ cap) (hcap2 : cap ≤ 1048576) (hq : (n + 1184) / 1185 = q) :
    Calls Try.prog 7 #[.slice (some ⟨g, off, none⟩) n cap] w fun e w' => ZPost w.heap.size g off n cap q w e w' := hq ▸ zz_any g off n cap w h0 hn hcap hcap2

set_option maxRecDepth 100000 in
set_option maxHeartbeats 1000000 in
theorem law_early (a0 : Option Addr) (n cap : Nat) (c : Int) (w : World) (hn : n ≤ 9223372036854775807) (hc1 : -9223372036854775808 ≤ c) (hc2 : c ≤ 9223372036854775807) (h : ¬ (n ≤ 1048576 ∧ 0 < c ∧ c < n ∧ c.tmod 1185 = 0)) :
    Calls Try.prog 3 #[.slice a0 n cap, .int .i64 c] w fun e w' => e = .returned (.bool true) ∧ Below w.heap.size w w' := by
  by_cases h1 : n ≤ 1048576
  · have hd : decide (n ≤ 1048576) = true := decide_eq_true h1
    have C := bytes_any a0 n cap c w hn
    rw [hd] at C
    have HC := hide C
    clear C hd
    by_cases h2 : 0 < c
    · by_cases h3 : c < n
      · have h4 : c.tmod 1185 ≠ 0 := fun e => h ⟨h1, h2, h3, e⟩
        clear h
        have h5 : (c % 1185 != 0) = true := by
          have : c % 1185 ≠ 0 := by rw [Int.tmod_eq_emod_of_nonneg (by omega)] at h4; exact h4
          simpa using this
        go_enter Try.func3, Try.ntmps3
        go_wp2_with (first | (go_at_call 5; refine HC.out.mono ?_; rintro e w1 ⟨rfl, rfl⟩))
        go_ret
        exact ⟨rfl, Below.refl _ _⟩
      · clear h
        go_enter Try.func3, Try.ntmps3
        go_wp2_with (first | (go_at_call 5; refine HC.out.mono ?_; rintro e w1 ⟨rfl, rfl⟩))
        go_ret
        exact ⟨rfl, Below.refl _ _⟩
    · clear h
      go_enter Try.func3, Try.ntmps3
      go_wp2_with (first | (go_at_call 5; refine HC.out.mono ?_; rintro e w1 ⟨rfl, rfl⟩))
      go_ret
      exact ⟨rfl, Below.refl _ _⟩
  · have hd : decide (n ≤ 1048576) = false := decide_eq_false h1
    have C := bytes_any a0 n cap c w hn
    rw [hd] at C
    have HC := hide C
    clear C hd h
    go_enter Try.func3, Try.ntmps3
    go_wp2_with (first | (go_at_call 5; refine HC.out.mono ?_; rintro e w1 ⟨rfl, rfl⟩))
    go_ret
    exact ⟨rfl, Below.refl _ _⟩

/-- What the two loops read: the world behind the three calls. -/
structure Has (w : World) (N n c j q r x1 x2 y1 y2 z1 z2 : Nat) : Prop where
  bits : U8Row w N n
  wf : ∀ k, k < q → w.cell? ⟨x1, k, none⟩ = some (fV k)
  wp : ∀ k, k < q → w.cell? ⟨x2, k, none⟩ = some (gV N 0 n n k)
  af : ∀ k, k < j → w.cell? ⟨y1, k, none⟩ = some (fV k)
  ap : ∀ k, k < j → w.cell? ⟨y2, k, none⟩ = some (gV N 0 c n k)
  bf : ∀ k, k < r → w.cell? ⟨z1, k, none⟩ = some (fV k)
  bp : ∀ k, k < r → w.cell? ⟨z2, k, none⟩ = some (gV N c (n - c) (n - c) k)

theorem fL_at {w : World} {N g cap q : Nat} (h : w.ownsRow N 3 1 (.slice (some ⟨g, 0, none⟩) q cap) q (fL q)) : ∀ k, k < q → w.cell? ⟨g, k, none⟩ = some (fV k) := by
  intro k hk
  rw [h.cellAt k (by omega)]
  simp [fL, hk]
theorem gL_at {w : World} {N g cap q b off n cc : Nat} (h : w.ownsRow N 22 1 (.slice (some ⟨g, 0, none⟩) q cap) q (gL b off n cc q)) : ∀ k, k < q → w.cell? ⟨g, k, none⟩ = some (gV b off n cc k) := by
  intro k hk
  rw [h.cellAt k (by omega)]
  simp [gL, hk]
theorem own_below {w w' : World} {N B : Nat} {e : TypeId} {v : Value} {q : Nat} {F : List Value} (h : w.ownsRow N e 1 v q F) (hb : Below B w w') (hB : w.heap.size ≤ B) : w'.ownsRow N e 1 v q F := by
  refine ⟨h.1, ?_⟩
  rcases h.2 with hn | ⟨g, cap, cur, rfl, hN, hc, rest⟩
  · exact .inl hn
  · exact .inr ⟨g, cap, cur, rfl, hN, (hb.block g (by have := lt_of_block hc; omega)).trans hc, rest⟩

theorem quiet_add {P : Program} {f : FuncId} {args : Array Value} {w : World} {a b : Nat} {v : Value}
    (h : Calls P f args (w.drewN (a + b)) fun e w' => e = .returned v ∧ ∃ m, w' = (w.drewN (a + b)).drewN m) : Calls P f args (w.drewN (a + b)) fun e w'' => e = .returned v ∧ ∃ n, w'' = w.drewN (a + n) :=
  h.mono fun _ _ ⟨he, m, hm⟩ => ⟨he, b + m, by rw [hm, World.drewN_drewN, Nat.add_assoc]⟩

set_option maxRecDepth 100000 in
set_option maxHeartbeats 4000000 in
theorem law_main (x : Addr) (n cap c j : Nat) (w : World) (hn : n ≤ 1048576) (hc : ∀ k, k < n → ∃ z, w.cell? (x.add k) = some (.int .u8 z)) (hx : x.block < w.heap.size) (hj : 1185 * j = c) (h0 : 0 < c) (h1 : c < n) :
    Calls Try.prog 3 #[.slice (some x) n cap, .int .i64 c] w fun e w' => e = .returned (.bool true) ∧ Below w.heap.size w w' := by
  have hd : decide (n ≤ 1048576) = true := decide_eq_true hn
  have C5 := bytes_any (some x) n cap c w (by omega)
  rw [hd] at C5
  have H5 := hide C5
  have H6 := hide (clone_any x n cap w hn hc hx)
  have hrem : (((c : Nat) : Int) % 1185 != 0) = false := by rw [← hj]; simp
  have i1 : (0 : Int) < (c : Int) := by omega
  have i2 : (c : Int) < (n : Int) := by omega
  have HJ := hide hj
  clear C5 hd hc hj
  go_enter Try.func3, Try.ntmps3
  go_wp2_with (first | (go_at_call 5; refine H5.out.mono ?_; rintro e w1 ⟨rfl, rfl⟩) | (go_at_call 6; refine H6.out.mono ?_))
  rintro e w2 ⟨rfl, hU, hB⟩
  have HU := hide hU
  have HB := hide hB
  clear hU hB H5 H6
  obtain ⟨q, hq⟩ : ∃ q, (n + 1184) / 1185 = q := ⟨_, rfl⟩
  obtain ⟨r, hr⟩ : ∃ r, (n - c + 1184) / 1185 = r := ⟨_, rfl⟩
  have hjc : (c + 1184) / 1185 = j := by have := HJ.out; omega
  have hqr : j + r = q := by have := HJ.out; omega
  have HQ := hide hq
  have HR := hide hr
  have HJC := hide hjc
  have HQR := hide hqr
  clear hq hr hjc hqr
  have q0 : 0 < n := by omega
  have q1 : n - c ≤ 1048576 := by omega
  have q2 : 0 < n - c := by omega
  have q3 : c ≤ n := by omega
  have q4 : c ≤ 1048576 := by omega
  go_wp2_with (go_at_call 7; refine (zz_q w1.heap.size 0 n n q w2 q0 hn (Nat.le_refl _) hn HQ.out).mono ?_)
  rintro e w3 ⟨x1, d1, x2, d2, rfl, o1, o2, hb3⟩
  have O1 := hide o1
  have O2 := hide o2
  have HB3 := hide hb3
  clear o1 o2 hb3
  go_wp2_with (go_at_call 7; refine (zz_q w1.heap.size 0 c n j w3 h0 q4 q3 hn HJC.out).mono ?_)
  rintro e w4 ⟨y1, d3, y2, d4, rfl, o3, o4, hb4⟩
  have O3 := hide o3
  have O4 := hide o4
  have HB4 := hide hb4
  clear o3 o4 hb4
  go_wp2_with (go_at_call 7; refine (zz_q w1.heap.size c (n - c) (n - c) r w4 q2 q1 (Nat.le_refl _) q1 HR.out).mono ?_)
  rintro e w5 ⟨z1, d5, z2, d6, rfl, o5, o6, hb5⟩
  have HAS := hide (show Has w5 w1.heap.size n c j q r x1 x2 y1 y2 z1 z2 from by
    have s3 := HB3.out.size
    have s4 := HB4.out.size
    exact ⟨((HU.out.below HB3.out HU.out.lt).below HB4.out (Nat.lt_of_lt_of_le HU.out.lt s3)).below hb5 (Nat.lt_of_lt_of_le HU.out.lt (Nat.le_trans s3 s4)),
      fL_at (own_below (own_below O1.out HB4.out (Nat.le_refl _)) hb5 (Nat.le_refl _)),
      gL_at (own_below (own_below O2.out HB4.out (Nat.le_refl _)) hb5 (Nat.le_refl _)),
      fL_at (own_below O3.out hb5 (Nat.le_refl _)), gL_at (own_below O4.out hb5 (Nat.le_refl _)), fL_at o5, gL_at o6⟩)
  have BEL := hide (((HB.out.trans (HB3.out.mono HB.out.size)).trans (HB4.out.mono (Nat.le_trans HB.out.size HB3.out.size))).trans (hb5.mono (Nat.le_trans HB.out.size (Nat.le_trans HB3.out.size HB4.out.size))))
  clear o5 o6 hb5 O1 O2 O3 O4 HB HB3 HB4 HU
  have hwant : ((n : Int) + 1185 - 1) / 1185 = (q : Int) := by have := HQ.out; omega
  have hsum : (j : Int) + (r : Int) = (q : Int) := by have := HQR.out; omega
  have j1 : j ≤ 1048576 := by have := HJ.out; omega
  have r1 : r ≤ 1048576 := by have := HR.out; omega
  have jq : j ≤ q := by have := HQR.out; omega
  go_wp2
  go_loopw [13] (fun t wr => ∃ k : Nat, k ≤ j ∧ t = .int .i64 k ∧ ∃ d, wr = w5.drewN d) (fun t _ => j - (intOf t).toNat)
  case atStart => exact ⟨0, by omega, rfl, 0, rfl⟩
  case round =>
    obtain ⟨k, hk, rfl, d, rfl⟩ := hrel
    by_cases hlt : k < j
    · have hkq : k < q := by omega
      have e1 := HAS.out.wf k hkq
      have e2 := HAS.out.wp k hkq
      have e3 := HAS.out.af k hlt
      have e4 := HAS.out.ap k hlt
      obtain ⟨o, ho⟩ : ∃ o, 1185 * k = o := ⟨_, rfl⟩
      rw [fV_eq ho] at e1 e3
      rw [gV_eq _ _ _ _ ho, show min 1185 (n - o) = 1185 from by have := HJ.out; omega] at e2
      rw [gV_eq _ _ _ _ ho, show min 1185 (c - o) = 1185 from by have := HJ.out; omega] at e4
      rw [Nat.zero_add] at e2 e4
      have HS := hide (fun a b => quiet_add (a := a) (b := b) (same_any w1.heap.size o 1185 (n - o) (n - o) (w5.drewN (a + b)) (by omega) (fun i hi => by
        obtain ⟨z, hz⟩ := HAS.out.bits.at (o + i) (by have := HJ.out; omega)
        exact ⟨z, hz⟩)))
      obtain ⟨f, hf⟩ : ∃ f, (o : Int) * 8 = f := ⟨_, rfl⟩
      rw [hf] at e1 e3
      have l1 : (k : Int) < (q : Int) := by omega
      have l2 : (k : Int) < (j : Int) := by omega
      clear hf ho
      go_wp2
      go_quiet (first | (go_at_call 8; exact HS.out _ _))
      go_wp2
      go_roundw
      case rel => exact ⟨k + 1, by omega, by go_num, _, by first | rfl | rw [World.drewN_drewN]⟩
      case measure => simp [intOf]; omega
    · obtain rfl : k = j := by omega
      go_wp2
      go_loopw [14] (fun t wr => ∃ k : Nat, k ≤ r ∧ t = .int .i64 k ∧ ∃ d, wr = w5.drewN d) (fun t _ => r - (intOf t).toNat)
      case atStart => exact ⟨0, by omega, rfl, d, rfl⟩
      case round =>
        obtain ⟨i, hi, rfl, d2', rfl⟩ := hrel
        by_cases hlt : i < r
        · have hkq : k + i < q := by have := HQR.out; omega
          have e1 := HAS.out.wf (k + i) hkq
          have e2 := HAS.out.wp (k + i) hkq
          have e3 := HAS.out.bf i hlt
          have e4 := HAS.out.bp i hlt
          obtain ⟨o, ho⟩ : ∃ o, 1185 * i = o := ⟨_, rfl⟩
          have ho2 : 1185 * (k + i) = c + o := by have := HJ.out; omega
          rw [fV_eq ho] at e3
          rw [fV_eq ho2] at e1
          obtain ⟨L, hL⟩ : ∃ L, min 1185 (n - (c + o)) = L := ⟨_, rfl⟩
          rw [gV_eq _ _ _ _ ho2, hL, Nat.zero_add] at e2
          rw [gV_eq _ _ _ _ ho, show min 1185 (n - c - o) = L from by omega] at e4
          have HS := hide (fun a b => quiet_add (a := a) (b := b) (same_any w1.heap.size (c + o) L (n - (c + o)) (n - c - o) (w5.drewN (a + b)) (by omega) (fun i hi => by
            obtain ⟨z, hz⟩ := HAS.out.bits.at (c + o + i) (by omega)
            exact ⟨z, hz⟩)))
          have hoq : o ≤ 1048576 := by have := HR.out; omega
          have l1 : ((k : Int) + (i : Int)) < (q : Int) := by omega
          have l2 : (i : Int) < (r : Int) := by omega
          obtain ⟨f, hf⟩ : ∃ f, (o : Int) * 8 = f := ⟨_, rfl⟩
          have hf2 : ((c + o : Nat) : Int) * 8 = f + 8 * (c : Int) := by omega
          rw [hf] at e3
          rw [hf2] at e1
          have hf3 : 0 ≤ f ∧ f ≤ 8388608 := by omega
          obtain ⟨hf4, hf5⟩ := hf3
          clear hf ho ho2 hL hf2
          go_wp2
          go_quiet (first | (go_at_call 8; exact HS.out _ _))
          go_wp2
          go_roundw
          case rel => exact ⟨i + 1, by omega, by go_num, _, by first | rfl | rw [World.drewN_drewN]⟩
          case measure => simp [intOf]; omega
        · obtain rfl : i = r := by omega
          go_wp2
          go_ret
          exact ⟨rfl, BEL.out.trans ⟨rfl, rfl, rfl, Nat.le_refl _, fun _ _ => rfl⟩⟩

end Go.Proofs.Qxb6616866a
