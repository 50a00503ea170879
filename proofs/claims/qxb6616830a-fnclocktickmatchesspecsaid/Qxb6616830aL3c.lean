/-
  The law of CopySharing: where the name stands.
-/
import Derived.Test.Qxb6616830aL3b
namespace Go.Proofs.Qxb6616830a
open Go.RowKit
set_option linter.unusedVariables false

set_option maxRecDepth 100000 in
set_option maxHeartbeats 4000000 in
theorem q11 (u5 u6 u7 u8 u9 u10 u11 u12 u13 u14 u17 u18 u19 u20 u21 u22 u23 u24 u25 u26 u27 u28 u29 u30 u31 u32 u33 u34 u35 u36 u37 u38 u39 u40 u41 u42 u43 u44 u45 u46 u47 u48 u49 u50 u51 u52 u53 u54 u55 u56 u57 u58 u59 u60 u61 u62 u63 u64 u65 u66 u67 u68 u69 u70 u71 u72 u73 u74 u75 u76 u77 u78 u79 u80 u81 u82 u83 u84 u85 u86 u87 u88 u89 u90 u91 u92 u93 u94 u95 u96 u97 u98 u99 u100 u101 u102 u103 u104 u105 u106 u107 u108 u109 u110 u111 u112 u113 u114 u115 u116 u117 u118 u119 u120 u121 u122 u123 u124 u125 u126 u127 u128 u129 u130 u131 u132 u133 u134 u135 u136 u137 u138 u139 u140 u141 u142 u143 u144 u145 u146 u147 u148 u149 u150 u151 u152 u153 u154 u155 u156 u157 u158 u159 u160 u161 u162 u163 u164 u165 u166 u167 u168 u169 u170 u171 u172 u173 u174 u175 u176 u177 u178 u179 u180 u181 u182 u183 u184 u185 u186 u187 u188 u189 u190 u191 u192 u193 u194 u195 u196 u197 u198 u199 u200 u201 u202 u203 u204 u205 u206 u207 u208 u209 : Value) (a b : Option Addr) (n c1 c2 t : Nat) (fz : Bool) (name : ByteArray) (nm : Nat → ByteArray) (cn : Nat → Int) (W w : World) (hn : n ≤ 65536) (ht : t ≤ 4294967295) (hs : StrAt w a n nm) (hc : CntAt w b n cn) (hsb : ∀ q, a = some q → q.block < w.heap.size) (hcb : ∀ q, b = some q → q.block < w.heap.size) (hA : Asc n nm) (hb0 : ∀ k, k < n → 0 ≤ cn k ∧ cn k ≤ 18446744073709551615) (bel : Below W.heap.size W w) :
    Code.wp Try.prog (dropS 11 (Try.f3.body.getD .skip)) (bodyPost Try.prog Try.f3 fun e w' => e = .returned (.bool true) ∧ Below W.heap.size W w') ⟨#[.slice a n c1, .slice b n c2, .int .u32 t, .bool fz, .string name, u5, u6, u7, u8, u9, u10, u11, u12, u13, u14, .int .u64 0, .int .i64 (-1), u17, u18, u19, u20, u21, u22, u23, u24, u25, u26, u27, u28, u29, u30, u31, u32, u33, u34, u35, u36, u37, u38, u39, u40, u41, u42, u43, u44, u45, u46, u47, u48, u49, u50, u51, u52, u53, u54, u55, u56, u57, u58, u59, u60, u61, u62, u63, u64, u65, u66, u67, u68, u69, u70, u71, u72, u73, u74, u75, u76, u77, u78, u79, u80, u81, u82, u83, u84, u85, u86, u87, u88, u89, u90, u91, u92, u93, u94, u95, u96, u97, u98, u99, u100, u101, u102, u103, u104, u105, u106, u107, u108, u109, u110, u111, u112, u113, u114, u115, u116, u117, u118, u119, u120, u121, u122, u123, u124, u125, u126, u127, u128, u129, u130, u131, u132, u133, u134, u135, u136, u137, u138, u139, u140, u141, u142, u143, u144, u145, u146, u147, u148, u149, u150, u151, u152, u153, u154, u155, u156, u157, u158, u159, u160, u161, u162, u163, u164, u165, u166, u167, u168, u169, u170, u171, u172, u173, u174, u175, u176, u177, u178, u179, u180, u181, u182, u183, u184, u185, u186, u187, u188, u189, u190, u191, u192, u193, u194, u195, u196, u197, u198, u199, u200, u201, u202, u203, u204, u205, u206, u207, u208, u209], []⟩ w := by
  have HS := hide hs
  have HC := hide hc
  have HH := hide (And.intro hsb (And.intro hcb (And.intro hA (And.intro hb0 bel))))
  clear hs hc bel hsb hcb hA hb0
  refine wp_seq (x := headS (dropS 11 (Try.f3.body.getD .skip))) (y := (dropS 12 (Try.f3.body.getD .skip))) ?_
  conv => arg 2; whnf
  go_wp2
  go_loopw [15, 16, 17] (fun x y z wr => ∃ (k : Nat) (old at_ : Int), k ≤ n ∧ x = .int .u64 old ∧ y = .int .i64 at_ ∧ z = .int .i64 k ∧ Loc k nm cn name old at_ ∧ wr = w) (fun _ _ z _ => n - (intOf z).toNat)
  case atStart => exact ⟨0, 0, -1, by omega, rfl, rfl, rfl, .inl ⟨rfl, rfl, fun k hk => absurd hk (by omega)⟩, rfl⟩
  case round =>
    obtain ⟨k, old, at_, hk, rfl, rfl, rfl, hL, rfl⟩ := hrel
    have HL := hide hL
    clear hL
    by_cases hlt : k < n
    · have hlt' : (k : Int) < (n : Int) := by omega
      obtain ⟨sb, rfl, g1⟩ : ∃ b1, a = some ⟨b1, 0, none⟩ ∧ ∀ k, k < n → wr.cell? ⟨b1, k, none⟩ = some (.string (nm k)) := by
        rcases HS.out with h | h
        · omega
        · exact h
      obtain ⟨cb, rfl, g2⟩ : ∃ b2, b = some ⟨b2, 0, none⟩ ∧ ∀ k, k < n → wr.cell? ⟨b2, k, none⟩ = some (.int .u64 (cn k)) := by
        rcases HC.out with h | h
        · omega
        · exact h
      have e1 := g1 k hlt
      have e2 := g2 k hlt
      obtain ⟨x, hx⟩ : ∃ x, nm k = x := ⟨_, rfl⟩
      rw [hx] at e1
      have HX := hide hx
      clear g1 g2 hx
      cases hxn : (x.toList == name.toList) with
      | true =>
        go_wp2
        go_roundw
        case rel => exact ⟨k + 1, cn k, k, by omega, rfl, rfl, by go_num, .inr ⟨k, by omega, rfl, rfl, by rw [HX.out]; simpa using hxn⟩, by trivial⟩
        case measure => simp [intOf]; omega
      | false =>
        go_wp2
        go_roundw
        case rel =>
          refine ⟨k + 1, old, at_, by omega, rfl, rfl, by go_num, ?_, by trivial⟩
          rcases HL.out with ⟨h1, h2, h3⟩ | ⟨j, h1, h2, h3, h4⟩
          · refine .inl ⟨h1, h2, fun j hj => ?_⟩
            rcases Nat.lt_or_ge j k with h | h
            · exact h3 j h
            · obtain rfl : j = k := by omega
              rw [HX.out]
              intro h
              simp [h] at hxn
          · exact .inr ⟨j, by omega, h2, h3, h4⟩
        case measure => simp [intOf]; omega
    · obtain rfl : k = n := by omega
      go_wp2
      obtain ⟨hsb, hcb, hA, hb0, bel⟩ := HH.out
      have ho : 0 ≤ old ∧ old ≤ 18446744073709551615 := by
        rcases HL.out with ⟨h1, h2, h3⟩ | ⟨j, h1, h2, h3, h4⟩
        · omega
        · have := hb0 j h1; omega
      exact q12 _ _ _ _ _ _ _ _ _ _ _ _ _ _ _ _ _ _ _ _ _ _ _ _ _ _ _ _ _ _ _ _ _ _ _ _ _ _ _ _ _ _ _ _ _ _ _ _ _ _ _ _ _ _ _ _ _ _ _ _ _ _ _ _ _ _ _ _ _ _ _ _ _ _ _ _ _ _ _ _ _ _ _ _ _ _ _ _ _ _ _ _ _ _ _ _ _ _ _ _ _ _ _ _ _ _ _ _ _ _ _ _ _ _ _ _ _ _ _ _ _ _ _ _ _ _ _ _ _ _ _ _ _ _ _ _ _ _ _ _ _ _ _ _ _ _ _ _ _ _ _ _ _ _ _ _ _ _ _ _ _ _ _ _ _ _ _ _ _ _ _ _ _ _ _ _ _ _ _ _ _ _ _ _ _ _ _ _ _ _ _ _ _ _ _ _ _ _ _ _ _ _ _ a b k c1 c2 t old at_ fz name nm cn W _ hn ht HS.out HC.out hsb hcb hA hb0 HL.out ho bel

end Go.Proofs.Qxb6616830a
