/-
  The law of MatchesSpec: the whole.
-/
import Derived.Test.Qxb6616830aL4f
namespace Go.Proofs.Qxb6616830a
open Go.RowKit
set_option linter.unusedVariables false

set_option maxRecDepth 100000 in
set_option maxHeartbeats 4000000 in
theorem law4 (a b : Option Addr) (n m c1 c2 t : Nat) (fz : Bool) (name : ByteArray) (nm : Nat → ByteArray) (cn : Nat → Int) (w : World) (ht : t ≤ 4294967295) (hna : name.size ≤ 9223372036854775807) (hsz : ∀ k, k < n → (nm k).size ≤ 9223372036854775807)
    (hs : InRow w a n c1 (fun k => .string (nm k))) (hc : InRow w b m c2 (fun k => .int .u64 (cn k))) (hb0 : ∀ k, k < m → 0 ≤ cn k ∧ cn k ≤ 18446744073709551615) :
    Calls Try.prog 4 #[.slice a n c1, .slice b m c2, .int .u32 t, .bool fz, .string name] w fun e w' => e = .returned (.bool true) ∧ Below w.heap.size w w' := by
  have HN := hide (bytes12x a b n m c1 c2 t fz name nm w hs.le hc.le hna hs hsz)
  have ln := hs.le
  have lm := hc.le
  have HH := hide (And.intro hs (And.intro hc hb0))
  clear hs hc hb0 hsz
  go_enter Try.func4, Try.ntmps4
  refine wp_seq (x := headS (dropS 0 (Try.f4.body.getD .skip))) (y := dropS 1 (Try.f4.body.getD .skip)) ?_
  conv => arg 2; whnf
  go_wp2
  refine wp_seq (x := headS (dropS 1 (Try.f4.body.getD .skip))) (y := dropS 2 (Try.f4.body.getD .skip)) ?_
  conv => arg 2; whnf
  go_wp2_with (go_at_call 12; refine HN.out.mono ?_)
  rintro e w1 ⟨hP, rfl⟩
  rcases hP with rfl | ⟨rfl, h1, h2, h3, h4⟩
  · go_wp2
    go_ret
    exact ⟨rfl, Below.refl _ _⟩
  · have H4 := hide h4
    clear h4 HN
    go_wp2
    refine wp_seq (x := headS (dropS 2 (Try.f4.body.getD .skip))) (y := dropS 3 (Try.f4.body.getD .skip)) ?_
    conv => arg 2; whnf
    by_cases hm : m ≤ 131072
    · by_cases hn : n ≤ 65536
      · go_wp2
        obtain ⟨hs, hc, hb0⟩ := HH.out
        exact r3 _ _ _ _ _ _ _ _ _ _ _ _ _ _ _ _ _ _ _ _ _ _ _ _ _ _ _ _ _ _ _ _ _ _ _ _ _ _ _ _ _ _ _ _ _ _ _ _ _ _ _ _ _ _ _ _ _ _ _ _ _ _ _ _ _ _ _ _ _ _ _ _ _ _ _ _ _ _ _ _ _ _ _ _ _ _ _ _ _ _ _ _ _ _ _ _ _ _ _ _ _ _ _ _ _ _ _ _ _ _ _ _ _ _ _ _ _ _ _ _ _ _ _ _ _ _ _ _ _ _ _ _ _ _ _ _ _ _ _ _ _ _ _ _ _ _ _ _ _ _ _ _ _ _ _ _ _ _ _ _ _ _ _ _ _ _ _ _ _ _ _ _ _ _ _ _ _ _ _ _ _ _ _ _ _ _ _ _ _ _ _ _ _ _ _ _ _ _ _ _ _ _ _ _ _ _ _ _ _ _ _ _ _ _ _ _ _ _ _ _ _ _ _ _ _ _ _ _ _ _ _ _ _ _ _ _ _ _ _ _ _ _ _ _ _ a b n m c1 c2 t fz name nm cn w w hn hm ht h3 H4.out hs hc hb0 (Below.refl _ _)
      · go_wp2
        go_ret
        exact ⟨rfl, Below.refl _ _⟩
    · go_wp2
      go_ret
      exact ⟨rfl, Below.refl _ _⟩
end Go.Proofs.Qxb6616830a
