/-
  The law's text: the whole.
-/
import Derived.Test.Qxb6616795aFmtLawD
namespace Go.Proofs.Qxb6616795aFmt
open Go.RowKit
set_option linter.unusedVariables false

theorem IsRow.le {k : IntKind} {w : World} {a : Option Addr} {len cap : Nat} {zs : List Int} (h : IsRow k w a len cap zs) : len ≤ 9223372036854775807 := by
  rcases h with ⟨_, h, _⟩ | ⟨_, _, h1, h2, _⟩
  · omega
  · unfold maxLen at h2; omega

set_option maxRecDepth 100000 in
set_option maxHeartbeats 4000000 in
theorem law_any (a0 a6 a7 a8 : Option Addr) (n0 c0 n6 n7 n8 c6 c7 c8 : Nat) (ss en ef el nu nv : Int) (z0 z6 z7 z8 : List Int) (pe pu : Addr) (su : ByteArray) (w : World)
    (ce : w.cell? ⟨0, 0, none⟩ = some (.iface 63 (.pointer (some pe)))) (cu : w.cell? ⟨1, 0, none⟩ = some (.iface 63 (.pointer (some pu)))) (cs : w.cell? pu = some (.string su))
    (z0r : IsRow .u8 w a0 n0 c0 z0) (z6r : IsRow .i64 w a6 n6 c6 z6) (z7r : IsRow .i64 w a7 n7 c7 z7) (z8r : IsRow .i64 w a8 n8 c8 z8) :
    Calls Tryf.prog 3 #[.slice a0 n0 c0, .int .i64 ss, .int .i64 en, .int .i64 ef, .int .i64 el, .int .i64 nu, .slice a6 n6 c6, .slice a7 n7 c7, .slice a8 n8 c8, .int .i64 nv] w fun e w' => e = .returned (.bool true) ∧ Below w.heap.size w w' := by
  have m0 := z0r.le
  have m6 := z6r.le
  have m7 := z7r.le
  have m8 := z8r.le
  have HH := hide (And.intro ce (And.intro cu (And.intro cs (And.intro z0r (And.intro z6r (And.intro z7r z8r))))))
  clear ce cu cs z0r z6r z7r z8r
  by_cases hb : n0 + n6 + n7 + n8 ≤ 1048576
  · go_enter Tryf.func3, Tryf.ntmps3
    refine wp_seq (x := headS (dropS 0 (Tryf.f3.body.getD .skip))) (y := dropS 1 (Tryf.f3.body.getD .skip)) ?_
    conv => arg 2; whnf
    go_wp2
    refine wp_seq (x := headS (dropS 1 (Tryf.f3.body.getD .skip))) (y := dropS 2 (Tryf.f3.body.getD .skip)) ?_
    conv => arg 2; whnf
    go_wp2_with (go_at_call 4; refine (bytes_yes _ _ _ _ _ _ _ _ _ _ _ _ _ _ _ _ _ _ _ hb).mono ?_; rintro e w' ⟨rfl, rfl⟩)
    obtain ⟨ce, cu, cs, z0r, z6r, z7r, z8r⟩ := HH.out
    exact q2 _ _ _ _ _ _ _ _ _ _ _ _ _ _ _ _ _ _ _ _ _ _ _ _ _ _ _ _ _ _ _ _ _ _ _ _ _ _ _ _ _ _ _ _ _ _ _ _ _ _ _ _ _ _ _ _ _ _ _ _ _ _ _ _ _ _ _ _ _ _ _ _ _ _ _ _ _ _ _ _ _ _ _ _ _ _ _ _ _ _ _ _ _ _ _ _ _ _ _ _ _ _ _ _ _ _ _ _ _ _ _ _ _ _ _ _ _ _ _ _ _ _ _ _ _ _ _ _ _ _ _ _ _ _ _ _ _ _ _ _ _ _ _ _ _ _ _ _ _ _ _ _ _ _ _ _ _ _ _ _ _ _ _ _ _ _ _ _ _ _ _ _ _ _ _ _ _ _ _ _ _ _ _ _ _ _ _ _ _ _ _ _ _ _ _ _ _ _ _ _ _ _ _ _ _ _ _ _ _ _ _ _ _ _ _ _ _ _ _ _ _ _ _ _ _ _ _ _ _ _ _ _ _ _ _ _ _ _ _ _ _ _ _ _ _ _ _ _ _ _ _ _ _ _ _ _ _ _ _ _ _ _ _ _ _ _ _ _ _ _ _ _ _ _ _ _ _ _ _ _ _ _ _ _ _ _ _ _ _ _ _ _ _ _ _ _ _ _ _ _ _ _ _ _ _ _ _ _ _ _ _ _ _ _ _ _ _ _ _ _ _ _ _ _ _ _ _ _ _ _ _ _ _ _ _ _ _ _ _ _ _ _ _ _ _ _ _ _ _ _ _ _ _ _ _ _ _ _ _ _ a0 a6 a7 a8 n0 c0 n6 n7 n8 c6 c7 c8 ss en ef el nu nv z0 z6 z7 z8 pe pu su w ce cu cs z0r z6r z7r z8r m0 m7 m8
  · go_enter Tryf.func3, Tryf.ntmps3
    refine wp_seq (x := headS (dropS 0 (Tryf.f3.body.getD .skip))) (y := dropS 1 (Tryf.f3.body.getD .skip)) ?_
    conv => arg 2; whnf
    go_wp2
    refine wp_seq (x := headS (dropS 1 (Tryf.f3.body.getD .skip))) (y := dropS 2 (Tryf.f3.body.getD .skip)) ?_
    conv => arg 2; whnf
    go_wp2_with (go_at_call 4; refine (bytes_no _ _ _ _ _ _ _ _ _ _ _ _ _ _ _ _ _ _ _ hb m0 m6 m7 m8).mono ?_; rintro e w' ⟨rfl, rfl⟩)
    go_ret
    exact ⟨rfl, Below.refl _ _⟩
end Go.Proofs.Qxb6616795aFmt
