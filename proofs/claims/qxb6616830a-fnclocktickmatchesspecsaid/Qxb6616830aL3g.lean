/-
  The law of CopySharing: the bound on bytes, and the whole.
-/
import Derived.Test.Qxb6616830aL3f
namespace Go.Proofs.Qxb6616830a
open Go.RowKit
set_option linter.unusedVariables false

set_option maxRecDepth 100000 in
set_option maxHeartbeats 2000000 in
theorem bytes5x (a b : Option Addr) (n m c1 c2 : Nat) (t : Int) (fz : Bool) (name : ByteArray) (nm : Nat → ByteArray) (w : World) (hn : n ≤ 9223372036854775807) (hm : m ≤ 9223372036854775807) (hna : name.size ≤ 9223372036854775807) (ha : InRow w a n c1 (fun k => .string (nm k))) (hs : ∀ k, k < n → (nm k).size ≤ 9223372036854775807) :
    Calls Try.prog 5 #[.slice a n c1, .slice b m c2, .int .u32 t, .bool fz, .string name] w fun e w' => BytesPost n m name nm e ∧ w = w' := by
  have HA := hide ha
  have HSZ := hide hs
  clear ha hs
  by_cases hn1 : n ≤ 1048576
  case neg =>
    go_enter Try.func5, Try.ntmps5
    go_wp2
    go_ret
    exact ⟨bp_no, rfl⟩
  case pos =>
    go_enter Try.func5, Try.ntmps5
    go_wp2
    go_loop [11, 12] (fun z t => ∃ (k q : Nat), k ≤ n ∧ t = .int .i64 k ∧ z = .int .i64 q ∧ q ≤ 1048576 ∧ ∀ j, j < k → (nm j).size ≤ 1048576) (fun _ t => n - (intOf t).toNat)
    case atStart => exact ⟨0, n, by omega, rfl, rfl, by omega, fun j hj => absurd hj (by omega)⟩
    case round =>
      obtain ⟨k, q, hk, rfl, rfl, hq, hG⟩ := hrel
      have HG := hide hG
      clear hG
      by_cases hlt : k < n
      · obtain ⟨x0, rfl, h1⟩ : ∃ x0, a = some x0 ∧ ∀ k, k < n → w.cell? (x0.add k) = some (.string (nm k)) := by
          rcases HA.out with h | ⟨x0, h, _, _, h2⟩
          · omega
          · exact ⟨x0, h, h2⟩
        have e1 := h1 k hlt
        have hxs := HSZ.out k hlt
        obtain ⟨x, hx⟩ : ∃ x, nm k = x := ⟨_, rfl⟩
        rw [hx] at e1 hxs
        have i1 : (k : Int) < (n : Int) := by omega
        have HX := hide hx
        clear hx h1
        by_cases hx1 : x.size ≤ 1048576
        · by_cases hx2 : q + x.size ≤ 1048576
          · go_wp2
            go_round
            case rel =>
              refine ⟨k + 1, q + x.size, by omega, by go_num, by go_num, hx2, ?_⟩
              intro j hj
              rcases Nat.lt_or_ge j k with h | h
              · exact HG.out j h
              · obtain rfl : j = k := by omega
                rw [HX.out]; exact hx1
            case measure => simp [intOf]; omega
          · go_wp2
            go_ret
            exact ⟨bp_no, rfl⟩
        · go_wp2
          go_ret
          exact ⟨bp_no, rfl⟩
      · obtain rfl : k = n := by omega
        by_cases hm1 : m ≤ 1048576
        · by_cases hm2 : q + m ≤ 1048576
          · by_cases hm3 : name.size ≤ 1048576
            · by_cases hm4 : q + m + name.size ≤ 1048576
              · go_wp2
                go_ret
                exact ⟨bp_yes hn1 hm1 hm3 HG.out, rfl⟩
              · go_wp2
                go_ret
                exact ⟨bp_no, rfl⟩
            · go_wp2
              go_ret
              exact ⟨bp_no, rfl⟩
          · go_wp2
            go_ret
            exact ⟨bp_no, rfl⟩
        · go_wp2
          go_ret
          exact ⟨bp_no, rfl⟩

set_option maxRecDepth 100000 in
set_option maxHeartbeats 2000000 in
theorem bytes12x (a b : Option Addr) (n m c1 c2 : Nat) (t : Int) (fz : Bool) (name : ByteArray) (nm : Nat → ByteArray) (w : World) (hn : n ≤ 9223372036854775807) (hm : m ≤ 9223372036854775807) (hna : name.size ≤ 9223372036854775807) (ha : InRow w a n c1 (fun k => .string (nm k))) (hs : ∀ k, k < n → (nm k).size ≤ 9223372036854775807) :
    Calls Try.prog 12 #[.slice a n c1, .slice b m c2, .int .u32 t, .bool fz, .string name] w fun e w' => BytesPost n m name nm e ∧ w = w' := by
  have HA := hide ha
  have HSZ := hide hs
  clear ha hs
  by_cases hn1 : n ≤ 1048576
  case neg =>
    go_enter Try.func12, Try.ntmps12
    go_wp2
    go_ret
    exact ⟨bp_no, rfl⟩
  case pos =>
    go_enter Try.func12, Try.ntmps12
    go_wp2
    go_loop [11, 12] (fun z t => ∃ (k q : Nat), k ≤ n ∧ t = .int .i64 k ∧ z = .int .i64 q ∧ q ≤ 1048576 ∧ ∀ j, j < k → (nm j).size ≤ 1048576) (fun _ t => n - (intOf t).toNat)
    case atStart => exact ⟨0, n, by omega, rfl, rfl, by omega, fun j hj => absurd hj (by omega)⟩
    case round =>
      obtain ⟨k, q, hk, rfl, rfl, hq, hG⟩ := hrel
      have HG := hide hG
      clear hG
      by_cases hlt : k < n
      · obtain ⟨x0, rfl, h1⟩ : ∃ x0, a = some x0 ∧ ∀ k, k < n → w.cell? (x0.add k) = some (.string (nm k)) := by
          rcases HA.out with h | ⟨x0, h, _, _, h2⟩
          · omega
          · exact ⟨x0, h, h2⟩
        have e1 := h1 k hlt
        have hxs := HSZ.out k hlt
        obtain ⟨x, hx⟩ : ∃ x, nm k = x := ⟨_, rfl⟩
        rw [hx] at e1 hxs
        have i1 : (k : Int) < (n : Int) := by omega
        have HX := hide hx
        clear hx h1
        by_cases hx1 : x.size ≤ 1048576
        · by_cases hx2 : q + x.size ≤ 1048576
          · go_wp2
            go_round
            case rel =>
              refine ⟨k + 1, q + x.size, by omega, by go_num, by go_num, hx2, ?_⟩
              intro j hj
              rcases Nat.lt_or_ge j k with h | h
              · exact HG.out j h
              · obtain rfl : j = k := by omega
                rw [HX.out]; exact hx1
            case measure => simp [intOf]; omega
          · go_wp2
            go_ret
            exact ⟨bp_no, rfl⟩
        · go_wp2
          go_ret
          exact ⟨bp_no, rfl⟩
      · obtain rfl : k = n := by omega
        by_cases hm1 : m ≤ 1048576
        · by_cases hm2 : q + m ≤ 1048576
          · by_cases hm3 : name.size ≤ 1048576
            · by_cases hm4 : q + m + name.size ≤ 1048576
              · go_wp2
                go_ret
                exact ⟨bp_yes hn1 hm1 hm3 HG.out, rfl⟩
              · go_wp2
                go_ret
                exact ⟨bp_no, rfl⟩
            · go_wp2
              go_ret
              exact ⟨bp_no, rfl⟩
          · go_wp2
            go_ret
            exact ⟨bp_no, rfl⟩
        · go_wp2
          go_ret
          exact ⟨bp_no, rfl⟩

set_option maxRecDepth 100000 in
set_option maxHeartbeats 4000000 in
theorem law3 (a b : Option Addr) (n m c1 c2 t : Nat) (fz : Bool) (name : ByteArray) (nm : Nat → ByteArray) (cn : Nat → Int) (w : World) (ht : t ≤ 4294967295) (hna : name.size ≤ 9223372036854775807) (hsz : ∀ k, k < n → (nm k).size ≤ 9223372036854775807)
    (hs : InRow w a n c1 (fun k => .string (nm k))) (hc : InRow w b m c2 (fun k => .int .u64 (cn k))) (hb0 : ∀ k, k < m → 0 ≤ cn k ∧ cn k ≤ 18446744073709551615) :
    Calls Try.prog 3 #[.slice a n c1, .slice b m c2, .int .u32 t, .bool fz, .string name] w fun e w' => e = .returned (.bool true) ∧ Below w.heap.size w w' := by
  have HN := hide (bytes5x a b n m c1 c2 t fz name nm w hs.le hc.le hna hs hsz)
  have ln := hs.le
  have lm := hc.le
  have HH := hide (And.intro hs (And.intro hc hb0))
  clear hs hc hb0 hsz
  go_enter Try.func3, Try.ntmps3
  refine wp_seq (x := headS (dropS 0 (Try.f3.body.getD .skip))) (y := dropS 1 (Try.f3.body.getD .skip)) ?_
  conv => arg 2; whnf
  go_wp2
  refine wp_seq (x := headS (dropS 1 (Try.f3.body.getD .skip))) (y := dropS 2 (Try.f3.body.getD .skip)) ?_
  conv => arg 2; whnf
  go_wp2_with (go_at_call 5; refine HN.out.mono ?_)
  rintro e w1 ⟨hP, rfl⟩
  rcases hP with rfl | ⟨rfl, h1, h2, h3, h4⟩
  · go_wp2
    go_ret
    exact ⟨rfl, Below.refl _ _⟩
  · have H4 := hide h4
    clear h4 HN
    go_wp2
    refine wp_seq (x := headS (dropS 2 (Try.f3.body.getD .skip))) (y := dropS 3 (Try.f3.body.getD .skip)) ?_
    conv => arg 2; whnf
    by_cases hm : m ≤ 131072
    · by_cases hn : n ≤ 65536
      · go_wp2
        obtain ⟨hs, hc, hb0⟩ := HH.out
        exact q3 _ _ _ _ _ _ _ _ _ _ _ _ _ _ _ _ _ _ _ _ _ _ _ _ _ _ _ _ _ _ _ _ _ _ _ _ _ _ _ _ _ _ _ _ _ _ _ _ _ _ _ _ _ _ _ _ _ _ _ _ _ _ _ _ _ _ _ _ _ _ _ _ _ _ _ _ _ _ _ _ _ _ _ _ _ _ _ _ _ _ _ _ _ _ _ _ _ _ _ _ _ _ _ _ _ _ _ _ _ _ _ _ _ _ _ _ _ _ _ _ _ _ _ _ _ _ _ _ _ _ _ _ _ _ _ _ _ _ _ _ _ _ _ _ _ _ _ _ _ _ _ _ _ _ _ _ _ _ _ _ _ _ _ _ _ _ _ _ _ _ _ _ _ _ _ _ _ _ _ _ _ _ _ _ _ _ _ _ _ _ _ _ _ _ _ _ _ _ _ _ _ _ _ _ _ a b n m c1 c2 t fz name nm cn w w hn hm ht h3 H4.out hs hc hb0 (Below.refl _ _)
      · go_wp2
        go_ret
        exact ⟨rfl, Below.refl _ _⟩
    · go_wp2
      go_ret
      exact ⟨rfl, Below.refl _ _⟩
end Go.Proofs.Qxb6616830a
