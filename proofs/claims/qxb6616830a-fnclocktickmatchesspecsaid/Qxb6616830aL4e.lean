/-
  The law of MatchesSpec: where the name stands; the state is asked.
-/
import Derived.Test.Qxb6616830aL4d
namespace Go.Proofs.Qxb6616830a
open Go.RowKit
set_option linter.unusedVariables false

set_option maxRecDepth 100000 in
set_option maxHeartbeats 4000000 in
theorem r11 (u5 u6 u7 u8 u9 u10 u11 u12 u13 u14 u17 u18 u19 u20 u21 u22 u23 u24 u25 u26 u27 u28 u29 u30 u31 u32 u33 u34 u35 u36 u37 u38 u39 u40 u41 u42 u43 u44 u45 u46 u47 u48 u49 u50 u51 u52 u53 u54 u55 u56 u57 u58 u59 u60 u61 u62 u63 u64 u65 u66 u67 u68 u69 u70 u71 u72 u73 u74 u75 u76 u77 u78 u79 u80 u81 u82 u83 u84 u85 u86 u87 u88 u89 u90 u91 u92 u93 u94 u95 u96 u97 u98 u99 u100 u101 u102 u103 u104 u105 u106 u107 u108 u109 u110 u111 u112 u113 u114 u115 u116 u117 u118 u119 u120 u121 u122 u123 u124 u125 u126 u127 u128 u129 u130 u131 u132 u133 u134 u135 u136 u137 u138 u139 u140 u141 u142 u143 u144 u145 u146 u147 u148 u149 u150 u151 u152 u153 u154 u155 u156 u157 u158 u159 u160 u161 u162 u163 u164 u165 u166 u167 u168 u169 u170 u171 u172 u173 u174 u175 u176 u177 u178 u179 u180 u181 u182 u183 u184 u185 u186 u187 u188 u189 u190 u191 u192 u193 u194 u195 u196 u197 u198 u199 u200 u201 u202 u203 u204 u205 u206 u207 u208 u209 u210 u211 u212 u213 u214 u215 u216 u217 u218 u219 u220 u221 u222 u223 u224 u225 u226 u227 u228 u229 u230 u231 u232 u233 u234 u235 u236 u237 u238 u239 u240 u241 u242 u243 u244 u245 u246 u247 u248 u249 : Value) (a b : Option Addr) (n c1 c2 t : Nat) (fz : Bool) (name : ByteArray) (nm : Nat → ByteArray) (cn : Nat → Int) (W w : World) (hn : n ≤ 65536) (ht : t ≤ 4294967295) (hs : StrAt w a n nm) (hc : CntAt w b n cn) (hsb : ∀ q, a = some q → q.block < w.heap.size) (hcb : ∀ q, b = some q → q.block < w.heap.size) (hA : Asc n nm) (hb0 : ∀ k, k < n → 0 < cn k ∧ cn k ≤ 18446744073709551615) (bel : Below W.heap.size W w) :
    Code.wp Try.prog (dropS 11 (Try.f4.body.getD .skip)) (bodyPost Try.prog Try.f4 fun e w' => e = .returned (.bool true) ∧ Below W.heap.size W w') ⟨#[.slice a n c1, .slice b n c2, .int .u32 t, .bool fz, .string name, u5, u6, u7, u8, u9, u10, u11, u12, u13, u14, .int .u64 0, .int .i64 (-1), u17, u18, u19, u20, u21, u22, u23, u24, u25, u26, u27, u28, u29, u30, u31, u32, u33, u34, u35, u36, u37, u38, u39, u40, u41, u42, u43, u44, u45, u46, u47, u48, u49, u50, u51, u52, u53, u54, u55, u56, u57, u58, u59, u60, u61, u62, u63, u64, u65, u66, u67, u68, u69, u70, u71, u72, u73, u74, u75, u76, u77, u78, u79, u80, u81, u82, u83, u84, u85, u86, u87, u88, u89, u90, u91, u92, u93, u94, u95, u96, u97, u98, u99, u100, u101, u102, u103, u104, u105, u106, u107, u108, u109, u110, u111, u112, u113, u114, u115, u116, u117, u118, u119, u120, u121, u122, u123, u124, u125, u126, u127, u128, u129, u130, u131, u132, u133, u134, u135, u136, u137, u138, u139, u140, u141, u142, u143, u144, u145, u146, u147, u148, u149, u150, u151, u152, u153, u154, u155, u156, u157, u158, u159, u160, u161, u162, u163, u164, u165, u166, u167, u168, u169, u170, u171, u172, u173, u174, u175, u176, u177, u178, u179, u180, u181, u182, u183, u184, u185, u186, u187, u188, u189, u190, u191, u192, u193, u194, u195, u196, u197, u198, u199, u200, u201, u202, u203, u204, u205, u206, u207, u208, u209, u210, u211, u212, u213, u214, u215, u216, u217, u218, u219, u220, u221, u222, u223, u224, u225, u226, u227, u228, u229, u230, u231, u232, u233, u234, u235, u236, u237, u238, u239, u240, u241, u242, u243, u244, u245, u246, u247, u248, u249], []⟩ w := by
  have HS := hide hs
  have HC := hide hc
  have HH := hide (And.intro hsb (And.intro hcb (And.intro hA (And.intro hb0 bel))))
  clear hs hc bel hsb hcb hA hb0
  refine wp_seq (x := headS (dropS 11 (Try.f4.body.getD .skip))) (y := (dropS 12 (Try.f4.body.getD .skip))) ?_
  conv => arg 2; whnf
  go_wp2
  go_loopw [15, 16, 17] (fun x y z wr => ∃ (k : Nat) (old at_ : Int), k ≤ n ∧ x = .int .u64 old ∧ y = .int .i64 at_ ∧ z = .int .i64 k ∧ Loc k nm cn name old at_ ∧ wr = w) (fun _ _ z _ => n - (intOf z).toNat)
  case atStart => exact ⟨0, 0, -1, by omega, rfl, rfl, rfl, .inl ⟨rfl, rfl, fun k hk => absurd hk (by omega)⟩, rfl⟩
  case round =>
    obtain ⟨k, old, at_, hk, rfl, rfl, rfl, hL, rfl⟩ := hrel
    have HL := hide hL
    clear hL
    by_cases hlt : k < n
    · have hlt' : (k : Int) < (n : Int) := by omega
      obtain ⟨sb, rfl, g1⟩ : ∃ b1, a = some ⟨b1, 0, none⟩ ∧ ∀ k, k < n → wr.cell? ⟨b1, k, none⟩ = some (.string (nm k)) := by
        rcases HS.out with h | h
        · omega
        · exact h
      obtain ⟨cb, rfl, g2⟩ : ∃ b2, b = some ⟨b2, 0, none⟩ ∧ ∀ k, k < n → wr.cell? ⟨b2, k, none⟩ = some (.int .u64 (cn k)) := by
        rcases HC.out with h | h
        · omega
        · exact h
      have e1 := g1 k hlt
      have e2 := g2 k hlt
      obtain ⟨x, hx⟩ : ∃ x, nm k = x := ⟨_, rfl⟩
      rw [hx] at e1
      have HX := hide hx
      clear g1 g2 hx
      cases hxn : (x.toList == name.toList) with
      | true =>
        go_wp2
        go_roundw
        case rel => exact ⟨k + 1, cn k, k, by omega, rfl, rfl, by go_num, .inr ⟨k, by omega, rfl, rfl, by rw [HX.out]; simpa using hxn⟩, by trivial⟩
        case measure => simp [intOf]; omega
      | false =>
        go_wp2
        go_roundw
        case rel =>
          refine ⟨k + 1, old, at_, by omega, rfl, rfl, by go_num, ?_, by trivial⟩
          rcases HL.out with ⟨h1, h2, h3⟩ | ⟨j, h1, h2, h3, h4⟩
          · refine .inl ⟨h1, h2, fun j hj => ?_⟩
            rcases Nat.lt_or_ge j k with h | h
            · exact h3 j h
            · obtain rfl : j = k := by omega
              rw [HX.out]
              intro h
              simp [h] at hxn
          · exact .inr ⟨j, by omega, h2, h3, h4⟩
        case measure => simp [intOf]; omega
    · obtain rfl : k = n := by omega
      go_wp2
      obtain ⟨hsb, hcb, hA, hb0, bel⟩ := HH.out
      have ho : 0 ≤ old ∧ old ≤ 18446744073709551615 := by
        rcases HL.out with ⟨h1, h2, h3⟩ | ⟨j, h1, h2, h3, h4⟩
        · omega
        · have := hb0 j h1; omega
      exact r12 _ _ _ _ _ _ _ _ _ _ _ _ _ _ _ _ _ _ _ _ _ _ _ _ _ _ _ _ _ _ _ _ _ _ _ _ _ _ _ _ _ _ _ _ _ _ _ _ _ _ _ _ _ _ _ _ _ _ _ _ _ _ _ _ _ _ _ _ _ _ _ _ _ _ _ _ _ _ _ _ _ _ _ _ _ _ _ _ _ _ _ _ _ _ _ _ _ _ _ _ _ _ _ _ _ _ _ _ _ _ _ _ _ _ _ _ _ _ _ _ _ _ _ _ _ _ _ _ _ _ _ _ _ _ _ _ _ _ _ _ _ _ _ _ _ _ _ _ _ _ _ _ _ _ _ _ _ _ _ _ _ _ _ _ _ _ _ _ _ _ _ _ _ _ _ _ _ _ _ _ _ _ _ _ _ _ _ _ _ _ _ _ _ _ _ _ _ _ _ _ _ _ _ _ _ _ _ _ _ _ _ _ _ _ _ _ _ _ _ _ _ _ _ _ _ _ _ _ _ _ _ _ _ _ _ _ _ _ _ _ _ _ _ a b k c1 c2 t old at_ fz name nm cn W _ hn ht HS.out HC.out hsb hcb hA hb0 HL.out ho bel

set_option maxRecDepth 100000 in
set_option maxHeartbeats 4000000 in
theorem r9 (u5 u6 u7 u8 u9 u10 u11 u12 u13 u14 u15 u16 u17 u18 u19 u20 u21 u22 u23 u24 u25 u26 u27 u28 u29 u30 u31 u32 u33 u34 u35 u36 u37 u38 u39 u40 u41 u42 u43 u44 u45 u46 u47 u48 u49 u50 u51 u52 u53 u54 u55 u56 u57 u58 u59 u60 u61 u62 u63 u64 u65 u66 u67 u68 u69 u70 u71 u72 u73 u74 u75 u76 u77 u78 u79 u80 u81 u82 u83 u84 u85 u86 u87 u88 u89 u90 u91 u92 u93 u94 u95 u96 u97 u98 u99 u100 u101 u102 u103 u104 u105 u106 u107 u108 u109 u110 u111 u112 u113 u114 u115 u116 u117 u118 u119 u120 u121 u122 u123 u124 u125 u126 u127 u128 u129 u130 u131 u132 u133 u134 u135 u136 u137 u138 u139 u140 u141 u142 u143 u144 u145 u146 u147 u148 u149 u150 u151 u152 u153 u154 u155 u156 u157 u158 u159 u160 u161 u162 u163 u164 u165 u166 u167 u168 u169 u170 u171 u172 u173 u174 u175 u176 u177 u178 u179 u180 u181 u182 u183 u184 u185 u186 u187 u188 u189 u190 u191 u192 u193 u194 u195 u196 u197 u198 u199 u200 u201 u202 u203 u204 u205 u206 u207 u208 u209 u210 u211 u212 u213 u214 u215 u216 u217 u218 u219 u220 u221 u222 u223 u224 u225 u226 u227 u228 u229 u230 u231 u232 u233 u234 u235 u236 u237 u238 u239 u240 u241 u242 u243 u244 u245 u246 u247 u248 u249 : Value) (a b : Option Addr) (n c1 c2 t : Nat) (fz : Bool) (name : ByteArray) (nm : Nat → ByteArray) (cn : Nat → Int) (W w : World) (hn : n ≤ 65536) (ht : t ≤ 4294967295) (hs : StrAt w a n nm) (hc : CntAt w b n cn) (hsb : ∀ q, a = some q → q.block < w.heap.size) (hcb : ∀ q, b = some q → q.block < w.heap.size) (hA : Asc n nm) (hb0 : ∀ k, k < n → 0 < cn k ∧ cn k ≤ 18446744073709551615) (bel : Below W.heap.size W w) :
    Code.wp Try.prog (dropS 9 (Try.f4.body.getD .skip)) (bodyPost Try.prog Try.f4 fun e w' => e = .returned (.bool true) ∧ Below W.heap.size W w') ⟨#[.slice a n c1, .slice b n c2, .int .u32 t, .bool fz, .string name, u5, u6, u7, u8, u9, u10, u11, u12, u13, u14, u15, u16, u17, u18, u19, u20, u21, u22, u23, u24, u25, u26, u27, u28, u29, u30, u31, u32, u33, u34, u35, u36, u37, u38, u39, u40, u41, u42, u43, u44, u45, u46, u47, u48, u49, u50, u51, u52, u53, u54, u55, u56, u57, u58, u59, u60, u61, u62, u63, u64, u65, u66, u67, u68, u69, u70, u71, u72, u73, u74, u75, u76, u77, u78, u79, u80, u81, u82, u83, u84, u85, u86, u87, u88, u89, u90, u91, u92, u93, u94, u95, u96, u97, u98, u99, u100, u101, u102, u103, u104, u105, u106, u107, u108, u109, u110, u111, u112, u113, u114, u115, u116, u117, u118, u119, u120, u121, u122, u123, u124, u125, u126, u127, u128, u129, u130, u131, u132, u133, u134, u135, u136, u137, u138, u139, u140, u141, u142, u143, u144, u145, u146, u147, u148, u149, u150, u151, u152, u153, u154, u155, u156, u157, u158, u159, u160, u161, u162, u163, u164, u165, u166, u167, u168, u169, u170, u171, u172, u173, u174, u175, u176, u177, u178, u179, u180, u181, u182, u183, u184, u185, u186, u187, u188, u189, u190, u191, u192, u193, u194, u195, u196, u197, u198, u199, u200, u201, u202, u203, u204, u205, u206, u207, u208, u209, u210, u211, u212, u213, u214, u215, u216, u217, u218, u219, u220, u221, u222, u223, u224, u225, u226, u227, u228, u229, u230, u231, u232, u233, u234, u235, u236, u237, u238, u239, u240, u241, u242, u243, u244, u245, u246, u247, u248, u249], []⟩ w := by
  have HH := hide (And.intro hs (And.intro hc (And.intro hsb (And.intro hcb (And.intro hA (And.intro hb0 bel))))))
  clear hs hc bel hsb hcb hA hb0
  refine wp_seq (x := headS (dropS 9 (Try.f4.body.getD .skip))) (y := (dropS 10 (Try.f4.body.getD .skip))) ?_
  conv => arg 2; whnf
  go_wp2
  refine wp_seq (x := headS (dropS 10 (Try.f4.body.getD .skip))) (y := (dropS 11 (Try.f4.body.getD .skip))) ?_
  conv => arg 2; whnf
  go_wp2
  obtain ⟨hs, hc, hsb, hcb, hA, hb0, bel⟩ := HH.out
  exact r11 _ _ _ _ _ _ _ _ _ _ _ _ _ _ _ _ _ _ _ _ _ _ _ _ _ _ _ _ _ _ _ _ _ _ _ _ _ _ _ _ _ _ _ _ _ _ _ _ _ _ _ _ _ _ _ _ _ _ _ _ _ _ _ _ _ _ _ _ _ _ _ _ _ _ _ _ _ _ _ _ _ _ _ _ _ _ _ _ _ _ _ _ _ _ _ _ _ _ _ _ _ _ _ _ _ _ _ _ _ _ _ _ _ _ _ _ _ _ _ _ _ _ _ _ _ _ _ _ _ _ _ _ _ _ _ _ _ _ _ _ _ _ _ _ _ _ _ _ _ _ _ _ _ _ _ _ _ _ _ _ _ _ _ _ _ _ _ _ _ _ _ _ _ _ _ _ _ _ _ _ _ _ _ _ _ _ _ _ _ _ _ _ _ _ _ _ _ _ _ _ _ _ _ _ _ _ _ _ _ _ _ _ _ _ _ _ _ _ _ _ _ _ _ _ _ _ _ _ _ _ _ _ _ _ _ _ _ _ _ _ _ _ _ a b n c1 c2 t fz name nm cn W w hn ht hs hc hsb hcb hA hb0 bel

set_option maxRecDepth 100000 in
set_option maxHeartbeats 4000000 in
theorem r8 (u5 u6 u7 u8 u9 u10 u11 u12 u13 u14 u15 u16 u17 u18 u19 u20 u21 u22 u23 u24 u25 u26 u27 u28 u29 u30 u31 u32 u33 u34 u35 u36 u37 u38 u39 u40 u41 u42 u43 u44 u45 u46 u47 u48 u49 u50 u51 u52 u53 u54 u55 u56 u57 u58 u59 u60 u61 u62 u63 u64 u65 u66 u67 u68 u69 u70 u71 u72 u73 u74 u75 u76 u77 u78 u79 u80 u81 u82 u83 u84 u85 u86 u87 u88 u89 u90 u91 u92 u93 u94 u95 u96 u97 u98 u99 u100 u101 u102 u103 u104 u105 u106 u107 u108 u109 u110 u111 u112 u113 u114 u115 u116 u117 u118 u119 u120 u121 u122 u123 u124 u125 u126 u127 u128 u129 u130 u131 u132 u133 u134 u135 u136 u137 u138 u139 u140 u141 u142 u143 u144 u145 u146 u147 u148 u149 u150 u151 u152 u153 u154 u155 u156 u157 u158 u159 u160 u161 u162 u163 u164 u165 u166 u167 u168 u169 u170 u171 u172 u173 u174 u175 u176 u177 u178 u179 u180 u181 u182 u183 u184 u185 u186 u187 u188 u189 u190 u191 u192 u193 u194 u195 u196 u197 u198 u199 u200 u201 u202 u203 u204 u205 u206 u207 u208 u209 u210 u211 u212 u213 u214 u215 u216 u217 u218 u219 u220 u221 u222 u223 u224 u225 u226 u227 u228 u229 u230 u231 u232 u233 u234 u235 u236 u237 u238 u239 u240 u241 u242 u243 u244 u245 u246 u247 u248 u249 : Value) (a b : Option Addr) (n m c1 c2 t : Nat) (fz : Bool) (name : ByteArray) (nm : Nat → ByteArray) (cn : Nat → Int) (W w : World) (hn : n ≤ 65536) (hm : m ≤ 131072) (ht : t ≤ 4294967295) (hna : name.size ≤ 1048576) (hsz : ∀ k, k < n → (nm k).size ≤ 1048576) (hs : StrAt w a n nm) (hc : CntAt w b m cn) (hsb : ∀ q, a = some q → q.block < w.heap.size) (hcb : ∀ q, b = some q → q.block < w.heap.size) (hb0 : ∀ k, k < m → 0 ≤ cn k ∧ cn k ≤ 18446744073709551615) (bel : Below W.heap.size W w) :
    Code.wp Try.prog (dropS 8 (Try.f4.body.getD .skip)) (bodyPost Try.prog Try.f4 fun e w' => e = .returned (.bool true) ∧ Below W.heap.size W w') ⟨#[.slice a n c1, .slice b m c2, .int .u32 t, .bool fz, .string name, u5, u6, u7, u8, u9, u10, u11, u12, u13, u14, u15, u16, u17, u18, u19, u20, u21, u22, u23, u24, u25, u26, u27, u28, u29, u30, u31, u32, u33, u34, u35, u36, u37, u38, u39, u40, u41, u42, u43, u44, u45, u46, u47, u48, u49, u50, u51, u52, u53, u54, u55, u56, u57, u58, u59, u60, u61, u62, u63, u64, u65, u66, u67, u68, u69, u70, u71, u72, u73, u74, u75, u76, u77, u78, u79, u80, u81, u82, u83, u84, u85, u86, u87, u88, u89, u90, u91, u92, u93, u94, u95, u96, u97, u98, u99, u100, u101, u102, u103, u104, u105, u106, u107, u108, u109, u110, u111, u112, u113, u114, u115, u116, u117, u118, u119, u120, u121, u122, u123, u124, u125, u126, u127, u128, u129, u130, u131, u132, u133, u134, u135, u136, u137, u138, u139, u140, u141, u142, u143, u144, u145, u146, u147, u148, u149, u150, u151, u152, u153, u154, u155, u156, u157, u158, u159, u160, u161, u162, u163, u164, u165, u166, u167, u168, u169, u170, u171, u172, u173, u174, u175, u176, u177, u178, u179, u180, u181, u182, u183, u184, u185, u186, u187, u188, u189, u190, u191, u192, u193, u194, u195, u196, u197, u198, u199, u200, u201, u202, u203, u204, u205, u206, u207, u208, u209, u210, u211, u212, u213, u214, u215, u216, u217, u218, u219, u220, u221, u222, u223, u224, u225, u226, u227, u228, u229, u230, u231, u232, u233, u234, u235, u236, u237, u238, u239, u240, u241, u242, u243, u244, u245, u246, u247, u248, u249], []⟩ w := by
  have HN := hide (state_any a b n m c1 c2 nm cn w (by omega) (by omega) hs hc hsz)
  have HM := hide (fun w => name_any name hna w)
  have HH := hide (And.intro hs (And.intro hc (And.intro hsb (And.intro hcb (And.intro hb0 bel)))))
  clear hs hc bel hsb hcb hb0 hsz
  refine wp_seq (x := headS (dropS 8 (Try.f4.body.getD .skip))) (y := (dropS 9 (Try.f4.body.getD .skip))) ?_
  conv => arg 2; whnf
  go_wp2_with (first | (go_at_call 6; refine HN.out.mono ?_))
  rintro e w1 ⟨⟨r, rfl, hr⟩, d, rfl⟩
  cases r with
  | false =>
    clear hr
    go_wp2
    go_ret
    exact ⟨rfl, below_drew _ _ _ HH.out.2.2.2.2.2⟩
  | true =>
    have HR := hide (hr rfl)
    clear hr
    go_wp2_with (first | (go_at_call 7; refine (HM.out _).mono ?_))
    rintro e w1 ⟨⟨r, rfl⟩, d', rfl⟩
    cases r with
    | false =>
      go_wp2
      go_ret
      exact ⟨rfl, by first | exact below_drew _ _ _ HH.out.2.2.2.2.2 | exact below_drew _ _ _ (below_drew _ _ _ HH.out.2.2.2.2.2)⟩
    | true =>
      go_wp2
      obtain ⟨hs, hc, hsb, hcb, hb0, bel⟩ := HH.out
      obtain ⟨rfl, hG⟩ := HR.out
      have hA : Asc n nm := fun k h0 hk => (hG k hk).2 h0
      exact r9 _ _ _ _ _ _ _ _ _ _ _ _ _ _ _ _ _ _ _ _ _ _ _ _ _ _ _ _ _ _ _ _ _ _ _ _ _ _ _ _ _ _ _ _ _ _ _ _ _ _ _ _ _ _ _ _ _ _ _ _ _ _ _ _ _ _ _ _ _ _ _ _ _ _ _ _ _ _ _ _ _ _ _ _ _ _ _ _ _ _ _ _ _ _ _ _ _ _ _ _ _ _ _ _ _ _ _ _ _ _ _ _ _ _ _ _ _ _ _ _ _ _ _ _ _ _ _ _ _ _ _ _ _ _ _ _ _ _ _ _ _ _ _ _ _ _ _ _ _ _ _ _ _ _ _ _ _ _ _ _ _ _ _ _ _ _ _ _ _ _ _ _ _ _ _ _ _ _ _ _ _ _ _ _ _ _ _ _ _ _ _ _ _ _ _ _ _ _ _ _ _ _ _ _ _ _ _ _ _ _ _ _ _ _ _ _ _ _ _ _ _ _ _ _ _ _ _ _ _ _ _ _ _ _ _ _ _ _ _ _ _ _ _ _ _ a b n c1 c2 t fz name nm cn W _ hn ht hs hc hsb hcb hA (fun k hk => ⟨by have h1 := hb0 k hk; have h2 := (hG k hk).1; omega, (hb0 k hk).2⟩) (by first | exact below_drew _ _ _ bel | exact below_drew _ _ _ (below_drew _ _ _ bel))

end Go.Proofs.Qxb6616830a
