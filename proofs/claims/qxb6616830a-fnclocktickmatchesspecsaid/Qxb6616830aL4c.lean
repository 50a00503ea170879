/-
  The law of MatchesSpec: the place of the name in the ticked clock.
-/
import Derived.Test.Qxb6616830aL4b
namespace Go.Proofs.Qxb6616830a
open Go.RowKit
set_option linter.unusedVariables false

theorem pstep {i j : Nat} {p : Int} (h : ¬ j = i) (hp : p = if i < j then (i : Int) else -1) : p = if i < j + 1 then (i : Int) else -1 := by
  rw [hp]
  by_cases hij : i < j
  · rw [if_pos hij, if_pos (by omega)]
  · rw [if_neg hij, if_neg (by omega)]

set_option maxRecDepth 100000 in
set_option maxHeartbeats 4000000 in
theorem r22 (u5 u6 u7 u8 u9 u10 u11 u12 u13 u14 u17 u23 u24 u25 u26 u27 u28 u29 u30 u31 u32 u33 u34 u35 u36 u37 u38 u39 u40 u41 u42 u43 u44 u45 u46 u47 u48 u49 u50 u51 u52 u53 u54 u55 u56 u57 u58 u59 u60 u61 u62 u63 u64 u65 u66 u67 u68 u69 u70 u71 u72 u73 u74 u75 u76 u77 u78 u79 u80 u81 u82 u83 u84 u85 u86 u87 u88 u89 u90 u91 u92 u93 u94 u95 u96 u97 u98 u99 u100 u101 u102 u103 u104 u105 u106 u107 u108 u109 u110 u111 u112 u113 u114 u115 u116 u117 u118 u119 u120 u121 u122 u123 u124 u125 u126 u127 u128 u129 u130 u131 u132 u133 u134 u135 u136 u137 u138 u139 u140 u141 u142 u143 u144 u145 u146 u147 u148 u149 u150 u151 u152 u153 u154 u155 u156 u157 u158 u159 u160 u161 u162 u163 u164 u165 u166 u167 u168 u169 u170 u171 u172 u173 u174 u175 u176 u177 u178 u179 u180 u181 u182 u183 u184 u185 u186 u187 u188 u189 u190 u191 u192 u193 u194 u195 u196 u197 u198 u199 u200 u201 u202 u203 u204 u205 u206 u207 u208 u209 u210 u211 u212 u213 u214 u215 u216 u217 u218 u219 u220 u221 u222 u223 u224 u225 u226 u227 u228 u229 u230 u231 u232 u233 u234 u235 u236 u237 u238 u239 u240 u241 u242 u243 u244 u245 u246 u247 u248 u249 : Value) (a b : Option Addr) (n c1 c2 B1 m h1 h2 i : Nat) (t old at_ : Int) (fz : Bool) (v : Value) (name : ByteArray) (nm nm' : Nat → ByteArray) (cn cn' : Nat → Int) (sg : Nat → Nat) (W w : World) (hn : n ≤ 65536) (hm : m ≤ 65537) (ho1 : 0 ≤ old) (ho2 : old < 18446744073709551615)
    (hs : StrAt w a n nm) (hc : CntAt w b n cn) (hB1 : w.heap[B1]? = some (.cells #[v, .int .u32 i, .bool false] 31 (0, 0))) (r1 : w.heap[h1]? = some (.cells (rowS nm' m).toArray 9 (0, 0))) (r2 : w.heap[h2]? = some (.cells (rowC cn' m).toArray 28 (0, 0))) (hG : Got n m i nm nm' cn cn' name old at_ sg) (hb0 : ∀ k, k < n → 0 < cn k ∧ cn k ≤ 18446744073709551615) (bel : Below W.heap.size W w) :
    Code.wp Try.prog (dropS 22 (Try.f4.body.getD .skip)) (bodyPost Try.prog Try.f4 fun e w' => e = .returned (.bool true) ∧ Below W.heap.size W w') ⟨#[.slice a n c1, .slice b n c2, .int .u32 t, .bool fz, .string name, u5, u6, u7, u8, u9, u10, u11, u12, u13, u14, .int .u64 old, .int .i64 at_, u17, .pointer (some ⟨B1, 0, none⟩), .slice (some ⟨h1, 0, none⟩) m m, .slice (some ⟨h2, 0, none⟩) m m, .int .i64 m, .int .i64 i, u23, u24, u25, u26, u27, u28, u29, u30, u31, u32, u33, u34, u35, u36, u37, u38, u39, u40, u41, u42, u43, u44, u45, u46, u47, u48, u49, u50, u51, u52, u53, u54, u55, u56, u57, u58, u59, u60, u61, u62, u63, u64, u65, u66, u67, u68, u69, u70, u71, u72, u73, u74, u75, u76, u77, u78, u79, u80, u81, u82, u83, u84, u85, u86, u87, u88, u89, u90, u91, u92, u93, u94, u95, u96, u97, u98, u99, u100, u101, u102, u103, u104, u105, u106, u107, u108, u109, u110, u111, u112, u113, u114, u115, u116, u117, u118, u119, u120, u121, u122, u123, u124, u125, u126, u127, u128, u129, u130, u131, u132, u133, u134, u135, u136, u137, u138, u139, u140, u141, u142, u143, u144, u145, u146, u147, u148, u149, u150, u151, u152, u153, u154, u155, u156, u157, u158, u159, u160, u161, u162, u163, u164, u165, u166, u167, u168, u169, u170, u171, u172, u173, u174, u175, u176, u177, u178, u179, u180, u181, u182, u183, u184, u185, u186, u187, u188, u189, u190, u191, u192, u193, u194, u195, u196, u197, u198, u199, u200, u201, u202, u203, u204, u205, u206, u207, u208, u209, u210, u211, u212, u213, u214, u215, u216, u217, u218, u219, u220, u221, u222, u223, u224, u225, u226, u227, u228, u229, u230, u231, u232, u233, u234, u235, u236, u237, u238, u239, u240, u241, u242, u243, u244, u245, u246, u247, u248, u249], []⟩ w := by
  have hi := hG.pos
  have e1 := rowC_cell r2 i hi
  rw [hG.cnt] at e1
  have hi1 : (i : Int) < (m : Int) := by omega
  have HR := hide (And.intro hs (And.intro hc (And.intro hB1 (And.intro r1 (And.intro r2 (And.intro hG (And.intro hb0 bel)))))))
  clear hs hc r1 r2 hG hb0 bel hB1
  refine wp_seq (x := headS (dropS 22 (Try.f4.body.getD .skip))) (y := (dropS 23 (Try.f4.body.getD .skip))) ?_
  conv => arg 2; whnf
  go_wp2
  refine wp_seq (x := headS (dropS 23 (Try.f4.body.getD .skip))) (y := (dropS 24 (Try.f4.body.getD .skip))) ?_
  conv => arg 2; whnf
  go_wp2
  obtain ⟨hs, hc, hB1, r1, r2, hG, hb0, bel⟩ := HR.out
  exact r24 _ _ _ _ _ _ _ _ _ _ _ _ _ _ _ _ _ _ _ _ _ _ _ _ _ _ _ _ _ _ _ _ _ _ _ _ _ _ _ _ _ _ _ _ _ _ _ _ _ _ _ _ _ _ _ _ _ _ _ _ _ _ _ _ _ _ _ _ _ _ _ _ _ _ _ _ _ _ _ _ _ _ _ _ _ _ _ _ _ _ _ _ _ _ _ _ _ _ _ _ _ _ _ _ _ _ _ _ _ _ _ _ _ _ _ _ _ _ _ _ _ _ _ _ _ _ _ _ _ _ _ _ _ _ _ _ _ _ _ _ _ _ _ _ _ _ _ _ _ _ _ _ _ _ _ _ _ _ _ _ _ _ _ _ _ _ _ _ _ _ _ _ _ _ _ _ _ _ _ _ _ _ _ _ _ _ _ _ _ _ _ _ _ _ _ _ _ _ _ _ _ _ _ _ _ _ _ _ _ _ _ _ _ _ _ _ _ _ _ _ _ _ _ _ _ _ _ _ _ _ _ _ _ _ _ _ _ a b n c1 c2 B1 m h1 h2 i t old at_ fz v name nm nm' cn cn' sg W w hn hm ho1 ho2 hs hc hB1 r1 r2 hG hb0 bel

set_option maxRecDepth 100000 in
set_option maxHeartbeats 4000000 in
theorem r21 (u5 u6 u7 u8 u9 u10 u11 u12 u13 u14 u17 u23 u24 u25 u26 u27 u28 u29 u30 u31 u32 u33 u34 u35 u36 u37 u38 u39 u40 u41 u42 u43 u44 u45 u46 u47 u48 u49 u50 u51 u52 u53 u54 u55 u56 u57 u58 u59 u60 u61 u62 u63 u64 u65 u66 u67 u68 u69 u70 u71 u72 u73 u74 u75 u76 u77 u78 u79 u80 u81 u82 u83 u84 u85 u86 u87 u88 u89 u90 u91 u92 u93 u94 u95 u96 u97 u98 u99 u100 u101 u102 u103 u104 u105 u106 u107 u108 u109 u110 u111 u112 u113 u114 u115 u116 u117 u118 u119 u120 u121 u122 u123 u124 u125 u126 u127 u128 u129 u130 u131 u132 u133 u134 u135 u136 u137 u138 u139 u140 u141 u142 u143 u144 u145 u146 u147 u148 u149 u150 u151 u152 u153 u154 u155 u156 u157 u158 u159 u160 u161 u162 u163 u164 u165 u166 u167 u168 u169 u170 u171 u172 u173 u174 u175 u176 u177 u178 u179 u180 u181 u182 u183 u184 u185 u186 u187 u188 u189 u190 u191 u192 u193 u194 u195 u196 u197 u198 u199 u200 u201 u202 u203 u204 u205 u206 u207 u208 u209 u210 u211 u212 u213 u214 u215 u216 u217 u218 u219 u220 u221 u222 u223 u224 u225 u226 u227 u228 u229 u230 u231 u232 u233 u234 u235 u236 u237 u238 u239 u240 u241 u242 u243 u244 u245 u246 u247 u248 u249 : Value) (a b : Option Addr) (n c1 c2 B1 m h1 h2 i : Nat) (t old at_ : Int) (fz : Bool) (v : Value) (name : ByteArray) (nm nm' : Nat → ByteArray) (cn cn' : Nat → Int) (sg : Nat → Nat) (W w : World) (hn : n ≤ 65536) (hm : m ≤ 65537) (ho1 : 0 ≤ old) (ho2 : old < 18446744073709551615)
    (hs : StrAt w a n nm) (hc : CntAt w b n cn) (hB1 : w.heap[B1]? = some (.cells #[v, .int .u32 i, .bool false] 31 (0, 0))) (r1 : w.heap[h1]? = some (.cells (rowS nm' m).toArray 9 (0, 0))) (r2 : w.heap[h2]? = some (.cells (rowC cn' m).toArray 28 (0, 0))) (hG : Got n m i nm nm' cn cn' name old at_ sg) (hb0 : ∀ k, k < n → 0 < cn k ∧ cn k ≤ 18446744073709551615) (bel : Below W.heap.size W w) :
    Code.wp Try.prog (dropS 21 (Try.f4.body.getD .skip)) (bodyPost Try.prog Try.f4 fun e w' => e = .returned (.bool true) ∧ Below W.heap.size W w') ⟨#[.slice a n c1, .slice b n c2, .int .u32 t, .bool fz, .string name, u5, u6, u7, u8, u9, u10, u11, u12, u13, u14, .int .u64 old, .int .i64 at_, u17, .pointer (some ⟨B1, 0, none⟩), .slice (some ⟨h1, 0, none⟩) m m, .slice (some ⟨h2, 0, none⟩) m m, .int .i64 m, .int .i64 (-1), u23, u24, u25, u26, u27, u28, u29, u30, u31, u32, u33, u34, u35, u36, u37, u38, u39, u40, u41, u42, u43, u44, u45, u46, u47, u48, u49, u50, u51, u52, u53, u54, u55, u56, u57, u58, u59, u60, u61, u62, u63, u64, u65, u66, u67, u68, u69, u70, u71, u72, u73, u74, u75, u76, u77, u78, u79, u80, u81, u82, u83, u84, u85, u86, u87, u88, u89, u90, u91, u92, u93, u94, u95, u96, u97, u98, u99, u100, u101, u102, u103, u104, u105, u106, u107, u108, u109, u110, u111, u112, u113, u114, u115, u116, u117, u118, u119, u120, u121, u122, u123, u124, u125, u126, u127, u128, u129, u130, u131, u132, u133, u134, u135, u136, u137, u138, u139, u140, u141, u142, u143, u144, u145, u146, u147, u148, u149, u150, u151, u152, u153, u154, u155, u156, u157, u158, u159, u160, u161, u162, u163, u164, u165, u166, u167, u168, u169, u170, u171, u172, u173, u174, u175, u176, u177, u178, u179, u180, u181, u182, u183, u184, u185, u186, u187, u188, u189, u190, u191, u192, u193, u194, u195, u196, u197, u198, u199, u200, u201, u202, u203, u204, u205, u206, u207, u208, u209, u210, u211, u212, u213, u214, u215, u216, u217, u218, u219, u220, u221, u222, u223, u224, u225, u226, u227, u228, u229, u230, u231, u232, u233, u234, u235, u236, u237, u238, u239, u240, u241, u242, u243, u244, u245, u246, u247, u248, u249], []⟩ w := by
  have HS := hide hs
  have HC := hide hc
  have H1 := hide (rowS_cell r1)
  have H2 := hide (rowC_cell r2)
  have HG := hide hG
  have HB0 := hide hb0
  have HR := hide (And.intro hB1 (And.intro r1 (And.intro r2 bel)))
  clear hs hc r1 r2 hG hb0 bel hB1
  refine wp_seq (x := headS (dropS 21 (Try.f4.body.getD .skip))) (y := (dropS 22 (Try.f4.body.getD .skip))) ?_
  conv => arg 2; whnf
  go_wp2
  go_loopw [22, 23] (fun y z wr => ∃ (j : Nat) (p : Int), j ≤ m ∧ y = .int .i64 p ∧ z = .int .i64 j ∧ p = (if i < j then (i : Int) else -1) ∧ ∃ d, wr = w.drewN d) (fun _ z _ => m - (intOf z).toNat)
  case atStart => exact ⟨0, -1, by omega, rfl, rfl, by rw [if_neg (by omega)], 0, rfl⟩
  case round =>
    obtain ⟨j, p, hj, rfl, rfl, hp, d, rfl⟩ := hrel
    by_cases hlt : j < m
    · have hlt' : (j : Int) < (m : Int) := by omega
      have e1 := H1.out j hlt
      have e2 := H2.out j hlt
      have b0 := HG.out.nz j hlt
      obtain ⟨x, hx⟩ : ∃ x, nm' j = x := ⟨_, rfl⟩
      obtain ⟨c, hc⟩ : ∃ c, cn' j = c := ⟨_, rfl⟩
      rw [hx] at e1
      rw [hc] at e2 b0
      have HX := hide hx
      clear hc hx
      have hc0 : ¬ c = 0 := by omega
      have hcb : (c == 0) = false := by simpa using hc0
      by_cases hk0 : j = 0
      · subst hk0
        by_cases hji : 0 = i
        · subst hji
          have hxn : (x.toList == name.toList) = true := by rw [HX.out.symm]; simpa using HG.out.here
          go_wp2
          go_quiet (fail)
          go_wp2
          go_roundw
          case rel => exact ⟨1, _, by omega, rfl, by go_num, by rw [if_pos (by omega)], _, by first | rfl | rw [World.drewN_drewN] | (rw [World.drewN_drewN, World.drewN_drewN])⟩
          case measure => simp [intOf]; omega
        · have hxn : (x.toList == name.toList) = false := by
            rw [HX.out.symm]
            simp only [beq_eq_false_iff_ne, ne_eq]
            exact fun h => hji (HG.out.asc.one hlt HG.out.pos (h.trans HG.out.here.symm))
          go_wp2
          go_quiet (fail)
          go_wp2
          go_roundw
          case rel => exact ⟨1, _, by omega, rfl, by go_num, pstep hji hp, _, by first | rfl | rw [World.drewN_drewN] | (rw [World.drewN_drewN, World.drewN_drewN])⟩
          case measure => simp [intOf]; omega
      · have e3 := H1.out (j - 1) (by omega)
        have hl := HG.out.asc j (by omega) hlt
        unfold lessB at hl
        rw [HX.out] at hl
        obtain ⟨y, hy⟩ : ∃ y, nm' (j - 1) = y := ⟨_, rfl⟩
        rw [hy] at e3 hl
        clear hy
        have i2 : (0 : Int) < (j : Int) := by omega
        have i3 : 0 < j := by omega
        have i4 : j - 1 < m := by omega
        have i5 : ((j : Int) - 1) < (m : Int) := by omega
        have i6 : (0 : Int) ≤ (j : Int) - 1 := by omega
        have i7 : ((j : Int) - 1).toNat = j - 1 := by omega
        by_cases hji : j = i
        · subst hji
          have hxn : (x.toList == name.toList) = true := by rw [HX.out.symm]; simpa using HG.out.here
          go_wp2
          go_quiet (fail)
          go_wp2
          go_roundw
          case rel => exact ⟨j + 1, _, by omega, rfl, by go_num, by rw [if_pos (by omega)], _, by first | rfl | rw [World.drewN_drewN] | (rw [World.drewN_drewN, World.drewN_drewN])⟩
          case measure => simp [intOf]; omega
        · have hxn : (x.toList == name.toList) = false := by
            rw [HX.out.symm]
            simp only [beq_eq_false_iff_ne, ne_eq]
            exact fun h => hji (HG.out.asc.one hlt HG.out.pos (h.trans HG.out.here.symm))
          go_wp2
          go_quiet (fail)
          go_wp2
          go_roundw
          case rel => exact ⟨j + 1, _, by omega, rfl, by go_num, pstep hji hp, _, by first | rfl | rw [World.drewN_drewN] | (rw [World.drewN_drewN, World.drewN_drewN])⟩
          case measure => simp [intOf]; omega
    · obtain rfl : j = m := by omega
      have hp' : p = i := by rw [hp, if_pos HG.out.pos]
      subst hp'
      clear hp
      go_wp2
      obtain ⟨hB1, r1, r2, bel⟩ := HR.out
      have kd : Kp (fun _ => False) w (w.drewN d) := (Kp.refl _ w).drewN d
      exact r22 _ _ _ _ _ _ _ _ _ _ _ _ _ _ _ _ _ _ _ _ _ _ _ _ _ _ _ _ _ _ _ _ _ _ _ _ _ _ _ _ _ _ _ _ _ _ _ _ _ _ _ _ _ _ _ _ _ _ _ _ _ _ _ _ _ _ _ _ _ _ _ _ _ _ _ _ _ _ _ _ _ _ _ _ _ _ _ _ _ _ _ _ _ _ _ _ _ _ _ _ _ _ _ _ _ _ _ _ _ _ _ _ _ _ _ _ _ _ _ _ _ _ _ _ _ _ _ _ _ _ _ _ _ _ _ _ _ _ _ _ _ _ _ _ _ _ _ _ _ _ _ _ _ _ _ _ _ _ _ _ _ _ _ _ _ _ _ _ _ _ _ _ _ _ _ _ _ _ _ _ _ _ _ _ _ _ _ _ _ _ _ _ _ _ _ _ _ _ _ _ _ _ _ _ _ _ _ _ _ _ _ _ _ _ _ _ _ _ _ _ _ _ _ _ _ _ _ _ _ _ _ _ _ _ _ _ _ _ a b n c1 c2 B1 j h1 h2 i t old at_ fz v name nm nm' cn cn' sg W _ hn hm ho1 ho2 (HS.out.kp kd (fun _ _ f => f)) (HC.out.kp kd (fun _ _ f => f)) (kd.row hB1 (fun f => f)) (kd.row r1 (fun f => f)) (kd.row r2 (fun f => f)) HG.out HB0.out (kp_below bel kd)

set_option maxRecDepth 100000 in
set_option maxHeartbeats 4000000 in
theorem r17 (u5 u6 u7 u8 u9 u10 u11 u12 u13 u14 u17 u21 u22 u23 u24 u25 u26 u27 u28 u29 u30 u31 u32 u33 u34 u35 u36 u37 u38 u39 u40 u41 u42 u43 u44 u45 u46 u47 u48 u49 u50 u51 u52 u53 u54 u55 u56 u57 u58 u59 u60 u61 u62 u63 u64 u65 u66 u67 u68 u69 u70 u71 u72 u73 u74 u75 u76 u77 u78 u79 u80 u81 u82 u83 u84 u85 u86 u87 u88 u89 u90 u91 u92 u93 u94 u95 u96 u97 u98 u99 u100 u101 u102 u103 u104 u105 u106 u107 u108 u109 u110 u111 u112 u113 u114 u115 u116 u117 u118 u119 u120 u121 u122 u123 u124 u125 u126 u127 u128 u129 u130 u131 u132 u133 u134 u135 u136 u137 u138 u139 u140 u141 u142 u143 u144 u145 u146 u147 u148 u149 u150 u151 u152 u153 u154 u155 u156 u157 u158 u159 u160 u161 u162 u163 u164 u165 u166 u167 u168 u169 u170 u171 u172 u173 u174 u175 u176 u177 u178 u179 u180 u181 u182 u183 u184 u185 u186 u187 u188 u189 u190 u191 u192 u193 u194 u195 u196 u197 u198 u199 u200 u201 u202 u203 u204 u205 u206 u207 u208 u209 u210 u211 u212 u213 u214 u215 u216 u217 u218 u219 u220 u221 u222 u223 u224 u225 u226 u227 u228 u229 u230 u231 u232 u233 u234 u235 u236 u237 u238 u239 u240 u241 u242 u243 u244 u245 u246 u247 u248 u249 : Value) (a b : Option Addr) (n c1 c2 B1 m h1 h2 i : Nat) (t old at_ : Int) (fz : Bool) (v : Value) (name : ByteArray) (nm nm' : Nat → ByteArray) (cn cn' : Nat → Int) (sg : Nat → Nat) (W w : World) (hn : n ≤ 65536) (hm : m ≤ 65537) (ho1 : 0 ≤ old) (ho2 : old < 18446744073709551615)
    (hs : StrAt w a n nm) (hc : CntAt w b n cn) (hB1 : w.heap[B1]? = some (.cells #[v, .int .u32 i, .bool false] 31 (0, 0))) (r1 : w.heap[h1]? = some (.cells (rowS nm' m).toArray 9 (0, 0))) (r2 : w.heap[h2]? = some (.cells (rowC cn' m).toArray 28 (0, 0))) (hG : Got n m i nm nm' cn cn' name old at_ sg) (hb0 : ∀ k, k < n → 0 < cn k ∧ cn k ≤ 18446744073709551615) (bel : Below W.heap.size W w) :
    Code.wp Try.prog (dropS 17 (Try.f4.body.getD .skip)) (bodyPost Try.prog Try.f4 fun e w' => e = .returned (.bool true) ∧ Below W.heap.size W w') ⟨#[.slice a n c1, .slice b n c2, .int .u32 t, .bool fz, .string name, u5, u6, u7, u8, u9, u10, u11, u12, u13, u14, .int .u64 old, .int .i64 at_, u17, .pointer (some ⟨B1, 0, none⟩), .slice (some ⟨h1, 0, none⟩) m m, .slice (some ⟨h2, 0, none⟩) m m, u21, u22, u23, u24, u25, u26, u27, u28, u29, u30, u31, u32, u33, u34, u35, u36, u37, u38, u39, u40, u41, u42, u43, u44, u45, u46, u47, u48, u49, u50, u51, u52, u53, u54, u55, u56, u57, u58, u59, u60, u61, u62, u63, u64, u65, u66, u67, u68, u69, u70, u71, u72, u73, u74, u75, u76, u77, u78, u79, u80, u81, u82, u83, u84, u85, u86, u87, u88, u89, u90, u91, u92, u93, u94, u95, u96, u97, u98, u99, u100, u101, u102, u103, u104, u105, u106, u107, u108, u109, u110, u111, u112, u113, u114, u115, u116, u117, u118, u119, u120, u121, u122, u123, u124, u125, u126, u127, u128, u129, u130, u131, u132, u133, u134, u135, u136, u137, u138, u139, u140, u141, u142, u143, u144, u145, u146, u147, u148, u149, u150, u151, u152, u153, u154, u155, u156, u157, u158, u159, u160, u161, u162, u163, u164, u165, u166, u167, u168, u169, u170, u171, u172, u173, u174, u175, u176, u177, u178, u179, u180, u181, u182, u183, u184, u185, u186, u187, u188, u189, u190, u191, u192, u193, u194, u195, u196, u197, u198, u199, u200, u201, u202, u203, u204, u205, u206, u207, u208, u209, u210, u211, u212, u213, u214, u215, u216, u217, u218, u219, u220, u221, u222, u223, u224, u225, u226, u227, u228, u229, u230, u231, u232, u233, u234, u235, u236, u237, u238, u239, u240, u241, u242, u243, u244, u245, u246, u247, u248, u249], []⟩ w := by
  have hz := hG.size
  have HR := hide (And.intro hs (And.intro hc (And.intro hB1 (And.intro r1 (And.intro r2 (And.intro hG (And.intro hb0 bel)))))))
  clear hs hc r1 r2 hG hb0 bel hB1
  refine wp_seq (x := headS (dropS 17 (Try.f4.body.getD .skip))) (y := (dropS 18 (Try.f4.body.getD .skip))) ?_
  conv => arg 2; whnf
  by_cases hat : at_ < 0
  · rw [if_pos hat] at hz
    subst hz
    go_wp2
    refine wp_seq (x := headS (dropS 18 (Try.f4.body.getD .skip))) (y := (dropS 19 (Try.f4.body.getD .skip))) ?_
    conv => arg 2; whnf
    go_wp2
    refine wp_seq (x := headS (dropS 19 (Try.f4.body.getD .skip))) (y := (dropS 20 (Try.f4.body.getD .skip))) ?_
    conv => arg 2; whnf
    go_wp2
    refine wp_seq (x := headS (dropS 20 (Try.f4.body.getD .skip))) (y := (dropS 21 (Try.f4.body.getD .skip))) ?_
    conv => arg 2; whnf
    go_wp2
    obtain ⟨hs, hc, hB1, r1, r2, hG, hb0, bel⟩ := HR.out
    exact r21 _ _ _ _ _ _ _ _ _ _ _ _ _ _ _ _ _ _ _ _ _ _ _ _ _ _ _ _ _ _ _ _ _ _ _ _ _ _ _ _ _ _ _ _ _ _ _ _ _ _ _ _ _ _ _ _ _ _ _ _ _ _ _ _ _ _ _ _ _ _ _ _ _ _ _ _ _ _ _ _ _ _ _ _ _ _ _ _ _ _ _ _ _ _ _ _ _ _ _ _ _ _ _ _ _ _ _ _ _ _ _ _ _ _ _ _ _ _ _ _ _ _ _ _ _ _ _ _ _ _ _ _ _ _ _ _ _ _ _ _ _ _ _ _ _ _ _ _ _ _ _ _ _ _ _ _ _ _ _ _ _ _ _ _ _ _ _ _ _ _ _ _ _ _ _ _ _ _ _ _ _ _ _ _ _ _ _ _ _ _ _ _ _ _ _ _ _ _ _ _ _ _ _ _ _ _ _ _ _ _ _ _ _ _ _ _ _ _ _ _ _ _ _ _ _ _ _ _ _ _ _ _ _ _ _ _ _ _ a b n c1 c2 B1 (n + 1) h1 h2 i t old at_ fz v name nm nm' cn cn' sg W w hn hm ho1 ho2 hs hc hB1 r1 r2 hG hb0 bel
  · rw [if_neg hat] at hz
    subst hz
    go_wp2
    refine wp_seq (x := headS (dropS 18 (Try.f4.body.getD .skip))) (y := (dropS 19 (Try.f4.body.getD .skip))) ?_
    conv => arg 2; whnf
    go_wp2
    refine wp_seq (x := headS (dropS 19 (Try.f4.body.getD .skip))) (y := (dropS 20 (Try.f4.body.getD .skip))) ?_
    conv => arg 2; whnf
    go_wp2
    refine wp_seq (x := headS (dropS 20 (Try.f4.body.getD .skip))) (y := (dropS 21 (Try.f4.body.getD .skip))) ?_
    conv => arg 2; whnf
    go_wp2
    obtain ⟨hs, hc, hB1, r1, r2, hG, hb0, bel⟩ := HR.out
    exact r21 _ _ _ _ _ _ _ _ _ _ _ _ _ _ _ _ _ _ _ _ _ _ _ _ _ _ _ _ _ _ _ _ _ _ _ _ _ _ _ _ _ _ _ _ _ _ _ _ _ _ _ _ _ _ _ _ _ _ _ _ _ _ _ _ _ _ _ _ _ _ _ _ _ _ _ _ _ _ _ _ _ _ _ _ _ _ _ _ _ _ _ _ _ _ _ _ _ _ _ _ _ _ _ _ _ _ _ _ _ _ _ _ _ _ _ _ _ _ _ _ _ _ _ _ _ _ _ _ _ _ _ _ _ _ _ _ _ _ _ _ _ _ _ _ _ _ _ _ _ _ _ _ _ _ _ _ _ _ _ _ _ _ _ _ _ _ _ _ _ _ _ _ _ _ _ _ _ _ _ _ _ _ _ _ _ _ _ _ _ _ _ _ _ _ _ _ _ _ _ _ _ _ _ _ _ _ _ _ _ _ _ _ _ _ _ _ _ _ _ _ _ _ _ _ _ _ _ _ _ _ _ _ _ _ _ _ _ _ a b m c1 c2 B1 m h1 h2 i t old at_ fz v name nm nm' cn cn' sg W w hn hm ho1 ho2 hs hc hB1 r1 r2 hG hb0 bel

end Go.Proofs.Qxb6616830a
