/-
  The law of HeardAt: the whole.
-/
import Derived.Test.Qxb6616866aDoorL6b
namespace Go.Proofs.Qxb6616866aDoor
open Go.RowKit
set_option linter.unusedVariables false

set_option maxRecDepth 100000 in
set_option maxHeartbeats 1000000 in
theorem bytes_any (a b c : Option Addr) (n0 n1 n2 c0 c1 c2 : Nat) (qa qp : Int) (w : World) (h0 : n0 ≤ 9223372036854775807) (h1 : n1 ≤ 9223372036854775807) (h2 : n2 ≤ 9223372036854775807) :
    Calls Tryd.prog 4 #[.slice a n0 c0, .slice b n1 c1, .slice c n2 c2, .int .u32 qa, .int .u16 qp] w fun e w' => (∃ r, e = .returned (.bool r)) ∧ w = w' := by
  by_cases g0 : n0 ≤ 1048576
  · by_cases g1 : n1 ≤ 1048576
    · by_cases g2 : n0 + n1 ≤ 1048576
      · by_cases g3 : n2 ≤ 1048576
        · by_cases g4 : n0 + n1 + n2 ≤ 1048576
          · go_enter Tryd.func4, Tryd.ntmps4
            go_wp2
            go_ret
            exact ⟨⟨_, rfl⟩, rfl⟩
          · go_enter Tryd.func4, Tryd.ntmps4
            go_wp2
            go_ret
            exact ⟨⟨_, rfl⟩, rfl⟩
        · go_enter Tryd.func4, Tryd.ntmps4
          go_wp2
          go_ret
          exact ⟨⟨_, rfl⟩, rfl⟩
      · go_enter Tryd.func4, Tryd.ntmps4
        go_wp2
        go_ret
        exact ⟨⟨_, rfl⟩, rfl⟩
    · go_enter Tryd.func4, Tryd.ntmps4
      go_wp2
      go_ret
      exact ⟨⟨_, rfl⟩, rfl⟩
  · go_enter Tryd.func4, Tryd.ntmps4
    go_wp2
    go_ret
    exact ⟨⟨_, rfl⟩, rfl⟩

set_option maxRecDepth 100000 in
theorem min3_any (x y z : Nat) (w : World) :
    Calls Tryd.prog 5 #[.int .i64 x, .int .i64 y, .int .i64 z] w fun e w' => (∃ m : Nat, e = .returned (.int .i64 m) ∧ m ≤ x ∧ m ≤ y ∧ m ≤ z) ∧ w = w' := by
  by_cases h1 : (y : Int) < (x : Int)
  · by_cases h2 : (z : Int) < (y : Int)
    · go_enter Tryd.func5, Tryd.ntmps5
      go_wp2
      go_ret
      exact ⟨⟨z, rfl, by omega, by omega, by omega⟩, rfl⟩
    · go_enter Tryd.func5, Tryd.ntmps5
      go_wp2
      go_ret
      exact ⟨⟨y, rfl, by omega, by omega, by omega⟩, rfl⟩
  · by_cases h2 : (z : Int) < (x : Int)
    · go_enter Tryd.func5, Tryd.ntmps5
      go_wp2
      go_ret
      exact ⟨⟨z, rfl, by omega, by omega, by omega⟩, rfl⟩
    · go_enter Tryd.func5, Tryd.ntmps5
      go_wp2
      go_ret
      exact ⟨⟨x, rfl, by omega, by omega, by omega⟩, rfl⟩

set_option maxRecDepth 100000 in
set_option maxHeartbeats 4000000 in
theorem law6 (a b c : Option Addr) (n0 n1 n2 c0 c1 c2 : Nat) (qa qp : Int) (A P T : Nat → Int) (z : Addr) (w : World) (h0 : n0 ≤ 9223372036854775807) (h1 : n1 ≤ 9223372036854775807) (h2 : n2 ≤ 9223372036854775807) (hqa : 0 ≤ qa ∧ qa ≤ 4294967295)
    (hA : RowI w.heap.size w a n0 .u32 A) (hP : RowI w.heap.size w b n1 .u16 P) (hT : RowI w.heap.size w c n2 .i64 T) (bA : ∀ k, k < n0 → 0 ≤ A k ∧ A k ≤ 4294967295) (hz : w.cell? ⟨0, 0, none⟩ = some (.pointer (some z))) :
    Calls Tryd.prog 3 #[.slice a n0 c0, .slice b n1 c1, .slice c n2 c2, .int .u32 qa, .int .u16 qp] w fun e w' => e = .returned (.bool true) ∧ Below w.heap.size w w' := by
  have HN := hide (bytes_any a b c n0 n1 n2 c0 c1 c2 qa qp w h0 h1 h2)
  have HM := hide (min3_any n0 n1 n2 w)
  have HH := hide (And.intro hA (And.intro hP (And.intro hT (And.intro bA (And.intro hz hqa)))))
  clear hA hP hT bA hz hqa
  go_enter Tryd.func3, Tryd.ntmps3
  refine wp_seq (x := headS (dropS 0 (Tryd.f3.body.getD .skip))) (y := (dropS 1 (Tryd.f3.body.getD .skip))) ?_
  conv => arg 2; whnf
  go_wp2
  refine wp_seq (x := headS (dropS 1 (Tryd.f3.body.getD .skip))) (y := (dropS 2 (Tryd.f3.body.getD .skip))) ?_
  conv => arg 2; whnf
  go_wp2_with (go_at_call 4; refine HN.out.mono ?_)
  rintro e w1 ⟨⟨r, rfl⟩, rfl⟩
  cases r with
  | false =>
    go_wp2
    go_ret
    exact ⟨rfl, Below.refl _ _⟩
  | true =>
    clear HN
    go_wp2
    refine wp_seq (x := headS (dropS 2 (Tryd.f3.body.getD .skip))) (y := (dropS 3 (Tryd.f3.body.getD .skip))) ?_
    conv => arg 2; whnf
    by_cases g0 : n0 ≤ 4096
    · by_cases g1 : n1 ≤ 4096
      · by_cases g2 : n2 ≤ 4096
        · go_wp2
          refine wp_seq (x := headS (dropS 3 (Tryd.f3.body.getD .skip))) (y := (dropS 4 (Tryd.f3.body.getD .skip))) ?_
          conv => arg 2; whnf
          go_wp2_with (go_at_call 5; refine HM.out.mono ?_)
          rintro e w1 ⟨⟨m, rfl, m0, m1, m2⟩, rfl⟩
          clear HM
          go_wp2
          obtain ⟨hA, hP, hT, bA, hz, hqa⟩ := HH.out
          exact t4 _ _ _ _ _ _ _ _ _ _ _ _ _ _ _ _ _ _ _ _ _ _ _ _ _ _ _ _ _ _ _ _ _ _ _ _ _ _ _ _ _ _ _ _ _ _ _ _ _ _ _ _ _ _ _ _ _ _ _ _ _ _ _ _ _ _ _ _ _ _ _ _ _ _ _ _ _ _ _ _ _ _ _ _ _ _ _ _ _ _ _ _ _ _ _ _ _ _ _ _ _ _ _ _ _ _ _ _ _ _ _ _ _ _ _ _ _ _ _ _ _ _ _ _ _ _ a b c n0 n1 n2 c0 c1 c2 m qa qp A P T z w w (by omega) m0 m1 m2 hqa hA hP hT bA hz (Below.refl _ _)
        · go_wp2
          go_ret
          exact ⟨rfl, Below.refl _ _⟩
      · go_wp2
        go_ret
        exact ⟨rfl, Below.refl _ _⟩
    · go_wp2
      go_ret
      exact ⟨rfl, Below.refl _ _⟩

end Go.Proofs.Qxb6616866aDoor
