/-
  The law of MatchesSpec: the last pieces.
-/
import Derived.Test.Qxb6616830aL4a
namespace Go.Proofs.Qxb6616830a
open Go.RowKit
set_option linter.unusedVariables false

set_option maxRecDepth 100000 in
set_option maxHeartbeats 4000000 in
theorem r25 (u0 u1 u2 u3 u4 u5 u6 u7 u8 u9 u10 u11 u12 u13 u14 u15 u16 u17 u19 u20 u21 u23 u24 u25 u26 u27 u28 u29 u30 u31 u32 u33 u34 u35 u36 u37 u38 u39 u40 u41 u42 u43 u44 u45 u46 u47 u48 u49 u50 u51 u52 u53 u54 u55 u56 u57 u58 u59 u60 u61 u62 u63 u64 u65 u66 u67 u68 u69 u70 u71 u72 u73 u74 u75 u76 u77 u78 u79 u80 u81 u82 u83 u84 u85 u86 u87 u88 u89 u90 u91 u92 u93 u94 u95 u96 u97 u98 u99 u100 u101 u102 u103 u104 u105 u106 u107 u108 u109 u110 u111 u112 u113 u114 u115 u116 u117 u118 u119 u120 u121 u122 u123 u124 u125 u126 u127 u128 u129 u130 u131 u132 u133 u134 u135 u136 u137 u138 u139 u140 u141 u142 u143 u144 u145 u146 u147 u148 u149 u150 u151 u152 u153 u154 u155 u156 u157 u158 u159 u160 u161 u162 u163 u164 u165 u166 u167 u168 u169 u170 u171 u172 u173 u174 u175 u176 u177 u178 u179 u180 u181 u182 u183 u184 u185 u186 u187 u188 u189 u190 u191 u192 u193 u194 u195 u196 u197 u198 u199 u200 u201 u202 u203 u204 u205 u206 u207 u208 u209 u210 u211 u212 u213 u214 u215 u216 u217 u218 u219 u220 u221 u222 u223 u224 u225 u226 u227 u228 u229 u230 u231 u232 u233 u234 u235 u236 u237 u238 u239 u240 u241 u242 u243 u244 u245 u246 u247 u248 u249 : Value) (B1 i : Nat) (v : Value) (W w : World) (hi : i ≤ 65537) (hB1 : w.heap[B1]? = some (.cells #[v, .int .u32 i, .bool false] 31 (0, 0))) (bel : Below W.heap.size W w) :
    Code.wp Try.prog (dropS 25 (Try.f4.body.getD .skip)) (bodyPost Try.prog Try.f4 fun e w' => e = .returned (.bool true) ∧ Below W.heap.size W w') ⟨#[u0, u1, u2, u3, u4, u5, u6, u7, u8, u9, u10, u11, u12, u13, u14, u15, u16, u17, .pointer (some ⟨B1, 0, none⟩), u19, u20, u21, .int .i64 i, u23, u24, u25, u26, u27, u28, u29, u30, u31, u32, u33, u34, u35, u36, u37, u38, u39, u40, u41, u42, u43, u44, u45, u46, u47, u48, u49, u50, u51, u52, u53, u54, u55, u56, u57, u58, u59, u60, u61, u62, u63, u64, u65, u66, u67, u68, u69, u70, u71, u72, u73, u74, u75, u76, u77, u78, u79, u80, u81, u82, u83, u84, u85, u86, u87, u88, u89, u90, u91, u92, u93, u94, u95, u96, u97, u98, u99, u100, u101, u102, u103, u104, u105, u106, u107, u108, u109, u110, u111, u112, u113, u114, u115, u116, u117, u118, u119, u120, u121, u122, u123, u124, u125, u126, u127, u128, u129, u130, u131, u132, u133, u134, u135, u136, u137, u138, u139, u140, u141, u142, u143, u144, u145, u146, u147, u148, u149, u150, u151, u152, u153, u154, u155, u156, u157, u158, u159, u160, u161, u162, u163, u164, u165, u166, u167, u168, u169, u170, u171, u172, u173, u174, u175, u176, u177, u178, u179, u180, u181, u182, u183, u184, u185, u186, u187, u188, u189, u190, u191, u192, u193, u194, u195, u196, u197, u198, u199, u200, u201, u202, u203, u204, u205, u206, u207, u208, u209, u210, u211, u212, u213, u214, u215, u216, u217, u218, u219, u220, u221, u222, u223, u224, u225, u226, u227, u228, u229, u230, u231, u232, u233, u234, u235, u236, u237, u238, u239, u240, u241, u242, u243, u244, u245, u246, u247, u248, u249], []⟩ w := by
  have c0 : w.cell? ⟨B1, 0, none⟩ = some v := (cell_of_row w _ 0 _ _ _ hB1).trans rfl
  have c1' : w.cell? ⟨B1, 1, none⟩ = some (.int .u32 i) := (cell_of_row w _ 1 _ _ _ hB1).trans rfl
  have c2' : w.cell? ⟨B1, 2, none⟩ = some (.bool false) := (cell_of_row w _ 2 _ _ _ hB1).trans rfl
  have H1 := hide (fun w => ticked_any v i false w)
  have H2 := hide (fun w => frozen_any v i false w)
  have HH := hide (And.intro hB1 bel)
  clear hB1 bel
  conv => arg 2; whnf
  go_wp2_with (go_at_call 13; refine (H1.out _).mono ?_)
  rintro e w1 ⟨rfl, k1⟩
  have HY := hide k1
  obtain ⟨hB1, bel⟩ := HH.out
  have hB1 := k1.row hB1 (fun f => f)
  have bel := kp_below bel k1
  have HH := hide (And.intro hB1 bel)
  clear k1 c0 c1' c2' bel
  have c0 : w1.cell? ⟨B1, 0, none⟩ = some v := (cell_of_row w1 _ 0 _ _ _ hB1).trans rfl
  have c1' : w1.cell? ⟨B1, 1, none⟩ = some (.int .u32 i) := (cell_of_row w1 _ 1 _ _ _ hB1).trans rfl
  have c2' : w1.cell? ⟨B1, 2, none⟩ = some (.bool false) := (cell_of_row w1 _ 2 _ _ _ hB1).trans rfl
  clear hB1
  go_wp2_with (go_at_call 14; refine (H2.out _).mono ?_)
  rintro e w2 ⟨rfl, k2⟩
  have HZ := hide k2
  clear k2 c0 c1' c2'
  go_wp2
  go_ret
  exact ⟨by first | rfl | simp, kp_below HH.out.2 HZ.out⟩

set_option maxRecDepth 100000 in
set_option maxHeartbeats 4000000 in
theorem r24 (u5 u6 u7 u8 u9 u10 u11 u12 u13 u14 u17 u23 u25 u26 u27 u28 u29 u30 u31 u32 u33 u34 u35 u36 u37 u38 u39 u40 u41 u42 u43 u44 u45 u46 u47 u48 u49 u50 u51 u52 u53 u54 u55 u56 u57 u58 u59 u60 u61 u62 u63 u64 u65 u66 u67 u68 u69 u70 u71 u72 u73 u74 u75 u76 u77 u78 u79 u80 u81 u82 u83 u84 u85 u86 u87 u88 u89 u90 u91 u92 u93 u94 u95 u96 u97 u98 u99 u100 u101 u102 u103 u104 u105 u106 u107 u108 u109 u110 u111 u112 u113 u114 u115 u116 u117 u118 u119 u120 u121 u122 u123 u124 u125 u126 u127 u128 u129 u130 u131 u132 u133 u134 u135 u136 u137 u138 u139 u140 u141 u142 u143 u144 u145 u146 u147 u148 u149 u150 u151 u152 u153 u154 u155 u156 u157 u158 u159 u160 u161 u162 u163 u164 u165 u166 u167 u168 u169 u170 u171 u172 u173 u174 u175 u176 u177 u178 u179 u180 u181 u182 u183 u184 u185 u186 u187 u188 u189 u190 u191 u192 u193 u194 u195 u196 u197 u198 u199 u200 u201 u202 u203 u204 u205 u206 u207 u208 u209 u210 u211 u212 u213 u214 u215 u216 u217 u218 u219 u220 u221 u222 u223 u224 u225 u226 u227 u228 u229 u230 u231 u232 u233 u234 u235 u236 u237 u238 u239 u240 u241 u242 u243 u244 u245 u246 u247 u248 u249 : Value) (a b : Option Addr) (n c1 c2 B1 m h1 h2 i : Nat) (t old at_ : Int) (fz : Bool) (v : Value) (name : ByteArray) (nm nm' : Nat → ByteArray) (cn cn' : Nat → Int) (sg : Nat → Nat) (W w : World) (hn : n ≤ 65536) (hm : m ≤ 65537) (ho1 : 0 ≤ old) (ho2 : old < 18446744073709551615)
    (hs : StrAt w a n nm) (hc : CntAt w b n cn) (hB1 : w.heap[B1]? = some (.cells #[v, .int .u32 i, .bool false] 31 (0, 0))) (r1 : w.heap[h1]? = some (.cells (rowS nm' m).toArray 9 (0, 0))) (r2 : w.heap[h2]? = some (.cells (rowC cn' m).toArray 28 (0, 0))) (hG : Got n m i nm nm' cn cn' name old at_ sg) (hb0 : ∀ k, k < n → 0 < cn k ∧ cn k ≤ 18446744073709551615) (bel : Below W.heap.size W w) :
    Code.wp Try.prog (dropS 24 (Try.f4.body.getD .skip)) (bodyPost Try.prog Try.f4 fun e w' => e = .returned (.bool true) ∧ Below W.heap.size W w') ⟨#[.slice a n c1, .slice b n c2, .int .u32 t, .bool fz, .string name, u5, u6, u7, u8, u9, u10, u11, u12, u13, u14, .int .u64 old, .int .i64 at_, u17, .pointer (some ⟨B1, 0, none⟩), .slice (some ⟨h1, 0, none⟩) m m, .slice (some ⟨h2, 0, none⟩) m m, .int .i64 m, .int .i64 i, u23, .int .i64 0, u25, u26, u27, u28, u29, u30, u31, u32, u33, u34, u35, u36, u37, u38, u39, u40, u41, u42, u43, u44, u45, u46, u47, u48, u49, u50, u51, u52, u53, u54, u55, u56, u57, u58, u59, u60, u61, u62, u63, u64, u65, u66, u67, u68, u69, u70, u71, u72, u73, u74, u75, u76, u77, u78, u79, u80, u81, u82, u83, u84, u85, u86, u87, u88, u89, u90, u91, u92, u93, u94, u95, u96, u97, u98, u99, u100, u101, u102, u103, u104, u105, u106, u107, u108, u109, u110, u111, u112, u113, u114, u115, u116, u117, u118, u119, u120, u121, u122, u123, u124, u125, u126, u127, u128, u129, u130, u131, u132, u133, u134, u135, u136, u137, u138, u139, u140, u141, u142, u143, u144, u145, u146, u147, u148, u149, u150, u151, u152, u153, u154, u155, u156, u157, u158, u159, u160, u161, u162, u163, u164, u165, u166, u167, u168, u169, u170, u171, u172, u173, u174, u175, u176, u177, u178, u179, u180, u181, u182, u183, u184, u185, u186, u187, u188, u189, u190, u191, u192, u193, u194, u195, u196, u197, u198, u199, u200, u201, u202, u203, u204, u205, u206, u207, u208, u209, u210, u211, u212, u213, u214, u215, u216, u217, u218, u219, u220, u221, u222, u223, u224, u225, u226, u227, u228, u229, u230, u231, u232, u233, u234, u235, u236, u237, u238, u239, u240, u241, u242, u243, u244, u245, u246, u247, u248, u249], []⟩ w := by
  have HS := hide hs
  have HC := hide hc
  have H1 := hide (rowS_cell r1)
  have H2 := hide (rowC_cell r2)
  have HG := hide hG
  have HB0 := hide hb0
  have HR := hide (And.intro hB1 (And.intro r1 (And.intro r2 bel)))
  clear hs hc r1 r2 hG hb0 bel hB1
  refine wp_seq (x := headS (dropS 24 (Try.f4.body.getD .skip))) (y := (dropS 25 (Try.f4.body.getD .skip))) ?_
  conv => arg 2; whnf
  go_wp2
  go_loopw [24, 25] (fun y z wr => ∃ (k j : Nat), k ≤ n ∧ y = .int .i64 j ∧ z = .int .i64 k ∧ (k < n → j ≤ sg k) ∧ ∃ d, wr = w.drewN d) (fun _ z _ => n - (intOf z).toNat)
  case atStart => exact ⟨0, 0, by omega, rfl, rfl, fun _ => Nat.zero_le _, 0, rfl⟩
  case round =>
    obtain ⟨k, j0, hk, rfl, rfl, hj0, d, rfl⟩ := hrel
    by_cases hlt : k < n
    · have hlt' : (k : Int) < (n : Int) := by omega
      have hjk := hj0 hlt
      clear hj0
      obtain ⟨sb, rfl, g1⟩ : ∃ b1, a = some ⟨b1, 0, none⟩ ∧ ∀ k, k < n → w.cell? ⟨b1, k, none⟩ = some (.string (nm k)) := by
        rcases HS.out with h | h
        · omega
        · exact h
      obtain ⟨cb, rfl, g2⟩ : ∃ b2, b = some ⟨b2, 0, none⟩ ∧ ∀ k, k < n → w.cell? ⟨b2, k, none⟩ = some (.int .u64 (cn k)) := by
        rcases HC.out with h | h
        · omega
        · exact h
      have e1 := g1 k hlt
      have e2 := g2 k hlt
      have b0 := HB0.out k hlt
      obtain ⟨hsk, hnk, hck⟩ := HG.out.map k hlt
      have b1 : (k : Int) = at_ → cn k < 18446744073709551615 := HG.out.top k hlt
      have hmono : k + 1 < n → sg k ≤ sg (k + 1) := HG.out.mono k
      have e3 := H1.out (sg k) hsk
      have e4 := H2.out (sg k) hsk
      have hls : ∀ j, j < sg k → lessB (nm' j) (nm k) = true := fun j hj => by rw [← hnk]; exact HG.out.asc.lt hj hsk
      rw [hnk] at e3
      rw [hck] at e4
      obtain ⟨x, hx⟩ : ∃ x, nm k = x := ⟨_, rfl⟩
      rw [hx] at e1 e3 hls
      obtain ⟨y, hy⟩ : ∃ y, cn k = y := ⟨_, rfl⟩
      rw [hy] at e2 e4 b0 b1
      obtain ⟨q, hq⟩ : ∃ q, sg k = q := ⟨_, rfl⟩
      rw [hq] at e3 e4 hls hsk hjk hmono
      have HLS := hide hls
      have HM := hide hmono
      clear hx hy hq hnk hck g1 g2 hls hmono
      obtain ⟨b2, b3⟩ := b0
      have irr := less_irr x.toList
      go_wp2
      go_loopw [24] (fun y wr => ∃ (j : Nat), y = .int .i64 j ∧ j ≤ q ∧ ∃ d, wr = w.drewN d) (fun z _ => q - (intOf z).toNat)
      case atStart => exact ⟨j0, rfl, hjk, d, rfl⟩
      case round =>
        obtain ⟨j, rfl, hj, d, rfl⟩ := hrel
        have hm1 : (j : Int) < (m : Int) := by omega
        have hm2 : j < m := by omega
        by_cases hjq : j < q
        · have e5 := H1.out j hm2
          have hl := HLS.out j hjq
          unfold lessB at hl
          obtain ⟨z, hz⟩ : ∃ z, nm' j = z := ⟨_, rfl⟩
          rw [hz] at e5 hl
          clear hz
          go_wp2
          go_quiet (fail)
          go_wp2
          go_roundw
          case rel => exact ⟨j + 1, by go_num, by omega, _, by first | rfl | rw [World.drewN_drewN] | (rw [World.drewN_drewN, World.drewN_drewN])⟩
          case measure => simp [intOf]; omega
        · obtain rfl : j = q := by omega
          have hnext : k + 1 < n → j ≤ sg (k + 1) := HM.out
          have hjm : ¬ (j : Int) = (m : Int) := by omega
          have hjb : ((j : Int) == (m : Int)) = false := by simpa using hjm
          have hjn : ¬ j = m := by omega
          by_cases hat : (k : Int) = at_
          · have b4 := b1 hat
            subst hat
            rw [if_pos rfl] at e4
            clear b1
            go_wp2
            go_quiet (fail)
            go_wp2
            go_quiet (fail)
            go_wp2
            go_roundw
            case rel => exact ⟨k + 1, j, by omega, by go_num, by go_num, hnext, _, by first | rfl | rw [World.drewN_drewN] | (rw [World.drewN_drewN, World.drewN_drewN])⟩
            case measure => simp [intOf]; omega
          · rw [if_neg hat] at e4
            clear b1
            go_wp2
            go_quiet (fail)
            go_wp2
            go_quiet (fail)
            go_wp2
            go_roundw
            case rel => exact ⟨k + 1, j, by omega, by go_num, by go_num, hnext, _, by first | rfl | rw [World.drewN_drewN] | (rw [World.drewN_drewN, World.drewN_drewN])⟩
            case measure => simp [intOf]; omega
    · obtain rfl : k = n := by omega
      go_wp2
      obtain ⟨hB1, r1, r2, bel⟩ := HR.out
      exact r25 _ _ _ _ _ _ _ _ _ _ _ _ _ _ _ _ _ _ _ _ _ _ _ _ _ _ _ _ _ _ _ _ _ _ _ _ _ _ _ _ _ _ _ _ _ _ _ _ _ _ _ _ _ _ _ _ _ _ _ _ _ _ _ _ _ _ _ _ _ _ _ _ _ _ _ _ _ _ _ _ _ _ _ _ _ _ _ _ _ _ _ _ _ _ _ _ _ _ _ _ _ _ _ _ _ _ _ _ _ _ _ _ _ _ _ _ _ _ _ _ _ _ _ _ _ _ _ _ _ _ _ _ _ _ _ _ _ _ _ _ _ _ _ _ _ _ _ _ _ _ _ _ _ _ _ _ _ _ _ _ _ _ _ _ _ _ _ _ _ _ _ _ _ _ _ _ _ _ _ _ _ _ _ _ _ _ _ _ _ _ _ _ _ _ _ _ _ _ _ _ _ _ _ _ _ _ _ _ _ _ _ _ _ _ _ _ _ _ _ _ _ _ _ _ _ _ _ _ _ _ _ _ _ _ _ _ _ _ _ _ _ _ _ _ _ _ _ _ B1 i v W _ (by have := HG.out.pos; omega) hB1 (below_drew _ _ _ bel)

end Go.Proofs.Qxb6616830a
