/-
  The law of CopySharing: the clock's state and the name are asked.
-/
import Derived.Test.Qxb6616830aL3c
namespace Go.Proofs.Qxb6616830a
open Go.RowKit
set_option linter.unusedVariables false

set_option maxRecDepth 100000 in
set_option maxHeartbeats 4000000 in
theorem q9 (u5 u6 u7 u8 u9 u10 u11 u12 u13 u14 u15 u16 u17 u18 u19 u20 u21 u22 u23 u24 u25 u26 u27 u28 u29 u30 u31 u32 u33 u34 u35 u36 u37 u38 u39 u40 u41 u42 u43 u44 u45 u46 u47 u48 u49 u50 u51 u52 u53 u54 u55 u56 u57 u58 u59 u60 u61 u62 u63 u64 u65 u66 u67 u68 u69 u70 u71 u72 u73 u74 u75 u76 u77 u78 u79 u80 u81 u82 u83 u84 u85 u86 u87 u88 u89 u90 u91 u92 u93 u94 u95 u96 u97 u98 u99 u100 u101 u102 u103 u104 u105 u106 u107 u108 u109 u110 u111 u112 u113 u114 u115 u116 u117 u118 u119 u120 u121 u122 u123 u124 u125 u126 u127 u128 u129 u130 u131 u132 u133 u134 u135 u136 u137 u138 u139 u140 u141 u142 u143 u144 u145 u146 u147 u148 u149 u150 u151 u152 u153 u154 u155 u156 u157 u158 u159 u160 u161 u162 u163 u164 u165 u166 u167 u168 u169 u170 u171 u172 u173 u174 u175 u176 u177 u178 u179 u180 u181 u182 u183 u184 u185 u186 u187 u188 u189 u190 u191 u192 u193 u194 u195 u196 u197 u198 u199 u200 u201 u202 u203 u204 u205 u206 u207 u208 u209 : Value) (a b : Option Addr) (n c1 c2 t : Nat) (fz : Bool) (name : ByteArray) (nm : Nat → ByteArray) (cn : Nat → Int) (W w : World) (hn : n ≤ 65536) (ht : t ≤ 4294967295) (hs : StrAt w a n nm) (hc : CntAt w b n cn) (hsb : ∀ q, a = some q → q.block < w.heap.size) (hcb : ∀ q, b = some q → q.block < w.heap.size) (hA : Asc n nm) (hb0 : ∀ k, k < n → 0 ≤ cn k ∧ cn k ≤ 18446744073709551615) (bel : Below W.heap.size W w) :
    Code.wp Try.prog (dropS 9 (Try.f3.body.getD .skip)) (bodyPost Try.prog Try.f3 fun e w' => e = .returned (.bool true) ∧ Below W.heap.size W w') ⟨#[.slice a n c1, .slice b n c2, .int .u32 t, .bool fz, .string name, u5, u6, u7, u8, u9, u10, u11, u12, u13, u14, u15, u16, u17, u18, u19, u20, u21, u22, u23, u24, u25, u26, u27, u28, u29, u30, u31, u32, u33, u34, u35, u36, u37, u38, u39, u40, u41, u42, u43, u44, u45, u46, u47, u48, u49, u50, u51, u52, u53, u54, u55, u56, u57, u58, u59, u60, u61, u62, u63, u64, u65, u66, u67, u68, u69, u70, u71, u72, u73, u74, u75, u76, u77, u78, u79, u80, u81, u82, u83, u84, u85, u86, u87, u88, u89, u90, u91, u92, u93, u94, u95, u96, u97, u98, u99, u100, u101, u102, u103, u104, u105, u106, u107, u108, u109, u110, u111, u112, u113, u114, u115, u116, u117, u118, u119, u120, u121, u122, u123, u124, u125, u126, u127, u128, u129, u130, u131, u132, u133, u134, u135, u136, u137, u138, u139, u140, u141, u142, u143, u144, u145, u146, u147, u148, u149, u150, u151, u152, u153, u154, u155, u156, u157, u158, u159, u160, u161, u162, u163, u164, u165, u166, u167, u168, u169, u170, u171, u172, u173, u174, u175, u176, u177, u178, u179, u180, u181, u182, u183, u184, u185, u186, u187, u188, u189, u190, u191, u192, u193, u194, u195, u196, u197, u198, u199, u200, u201, u202, u203, u204, u205, u206, u207, u208, u209], []⟩ w := by
  have HH := hide (And.intro hs (And.intro hc (And.intro hsb (And.intro hcb (And.intro hA (And.intro hb0 bel))))))
  clear hs hc bel hsb hcb hA hb0
  refine wp_seq (x := headS (dropS 9 (Try.f3.body.getD .skip))) (y := (dropS 10 (Try.f3.body.getD .skip))) ?_
  conv => arg 2; whnf
  go_wp2
  refine wp_seq (x := headS (dropS 10 (Try.f3.body.getD .skip))) (y := (dropS 11 (Try.f3.body.getD .skip))) ?_
  conv => arg 2; whnf
  go_wp2
  obtain ⟨hs, hc, hsb, hcb, hA, hb0, bel⟩ := HH.out
  exact q11 _ _ _ _ _ _ _ _ _ _ _ _ _ _ _ _ _ _ _ _ _ _ _ _ _ _ _ _ _ _ _ _ _ _ _ _ _ _ _ _ _ _ _ _ _ _ _ _ _ _ _ _ _ _ _ _ _ _ _ _ _ _ _ _ _ _ _ _ _ _ _ _ _ _ _ _ _ _ _ _ _ _ _ _ _ _ _ _ _ _ _ _ _ _ _ _ _ _ _ _ _ _ _ _ _ _ _ _ _ _ _ _ _ _ _ _ _ _ _ _ _ _ _ _ _ _ _ _ _ _ _ _ _ _ _ _ _ _ _ _ _ _ _ _ _ _ _ _ _ _ _ _ _ _ _ _ _ _ _ _ _ _ _ _ _ _ _ _ _ _ _ _ _ _ _ _ _ _ _ _ _ _ _ _ _ _ _ _ _ _ _ _ _ _ _ _ _ _ _ _ _ _ _ a b n c1 c2 t fz name nm cn W w hn ht hs hc hsb hcb hA hb0 bel

set_option maxRecDepth 100000 in
set_option maxHeartbeats 4000000 in
theorem q8 (u5 u6 u7 u8 u9 u10 u11 u12 u13 u14 u15 u16 u17 u18 u19 u20 u21 u22 u23 u24 u25 u26 u27 u28 u29 u30 u31 u32 u33 u34 u35 u36 u37 u38 u39 u40 u41 u42 u43 u44 u45 u46 u47 u48 u49 u50 u51 u52 u53 u54 u55 u56 u57 u58 u59 u60 u61 u62 u63 u64 u65 u66 u67 u68 u69 u70 u71 u72 u73 u74 u75 u76 u77 u78 u79 u80 u81 u82 u83 u84 u85 u86 u87 u88 u89 u90 u91 u92 u93 u94 u95 u96 u97 u98 u99 u100 u101 u102 u103 u104 u105 u106 u107 u108 u109 u110 u111 u112 u113 u114 u115 u116 u117 u118 u119 u120 u121 u122 u123 u124 u125 u126 u127 u128 u129 u130 u131 u132 u133 u134 u135 u136 u137 u138 u139 u140 u141 u142 u143 u144 u145 u146 u147 u148 u149 u150 u151 u152 u153 u154 u155 u156 u157 u158 u159 u160 u161 u162 u163 u164 u165 u166 u167 u168 u169 u170 u171 u172 u173 u174 u175 u176 u177 u178 u179 u180 u181 u182 u183 u184 u185 u186 u187 u188 u189 u190 u191 u192 u193 u194 u195 u196 u197 u198 u199 u200 u201 u202 u203 u204 u205 u206 u207 u208 u209 : Value) (a b : Option Addr) (n m c1 c2 t : Nat) (fz : Bool) (name : ByteArray) (nm : Nat → ByteArray) (cn : Nat → Int) (W w : World) (hn : n ≤ 65536) (hm : m ≤ 131072) (ht : t ≤ 4294967295) (hna : name.size ≤ 1048576) (hsz : ∀ k, k < n → (nm k).size ≤ 1048576) (hs : StrAt w a n nm) (hc : CntAt w b m cn) (hsb : ∀ q, a = some q → q.block < w.heap.size) (hcb : ∀ q, b = some q → q.block < w.heap.size) (hb0 : ∀ k, k < m → 0 ≤ cn k ∧ cn k ≤ 18446744073709551615) (bel : Below W.heap.size W w) :
    Code.wp Try.prog (dropS 8 (Try.f3.body.getD .skip)) (bodyPost Try.prog Try.f3 fun e w' => e = .returned (.bool true) ∧ Below W.heap.size W w') ⟨#[.slice a n c1, .slice b m c2, .int .u32 t, .bool fz, .string name, u5, u6, u7, u8, u9, u10, u11, u12, u13, u14, u15, u16, u17, u18, u19, u20, u21, u22, u23, u24, u25, u26, u27, u28, u29, u30, u31, u32, u33, u34, u35, u36, u37, u38, u39, u40, u41, u42, u43, u44, u45, u46, u47, u48, u49, u50, u51, u52, u53, u54, u55, u56, u57, u58, u59, u60, u61, u62, u63, u64, u65, u66, u67, u68, u69, u70, u71, u72, u73, u74, u75, u76, u77, u78, u79, u80, u81, u82, u83, u84, u85, u86, u87, u88, u89, u90, u91, u92, u93, u94, u95, u96, u97, u98, u99, u100, u101, u102, u103, u104, u105, u106, u107, u108, u109, u110, u111, u112, u113, u114, u115, u116, u117, u118, u119, u120, u121, u122, u123, u124, u125, u126, u127, u128, u129, u130, u131, u132, u133, u134, u135, u136, u137, u138, u139, u140, u141, u142, u143, u144, u145, u146, u147, u148, u149, u150, u151, u152, u153, u154, u155, u156, u157, u158, u159, u160, u161, u162, u163, u164, u165, u166, u167, u168, u169, u170, u171, u172, u173, u174, u175, u176, u177, u178, u179, u180, u181, u182, u183, u184, u185, u186, u187, u188, u189, u190, u191, u192, u193, u194, u195, u196, u197, u198, u199, u200, u201, u202, u203, u204, u205, u206, u207, u208, u209], []⟩ w := by
  have HN := hide (state_any a b n m c1 c2 nm cn w (by omega) (by omega) hs hc hsz)
  have HM := hide (fun w => name_any name hna w)
  have HH := hide (And.intro hs (And.intro hc (And.intro hsb (And.intro hcb (And.intro hb0 bel)))))
  clear hs hc bel hsb hcb hb0 hsz
  refine wp_seq (x := headS (dropS 8 (Try.f3.body.getD .skip))) (y := (dropS 9 (Try.f3.body.getD .skip))) ?_
  conv => arg 2; whnf
  go_wp2_with (first | (go_at_call 6; refine HN.out.mono ?_))
  rintro e w1 ⟨⟨r, rfl, hr⟩, d, rfl⟩
  cases r with
  | false =>
    clear hr
    go_wp2
    go_ret
    exact ⟨rfl, below_drew _ _ _ HH.out.2.2.2.2.2⟩
  | true =>
    have HR := hide (hr rfl)
    clear hr
    go_wp2_with (first | (go_at_call 7; refine (HM.out _).mono ?_))
    rintro e w1 ⟨⟨r, rfl⟩, d', rfl⟩
    cases r with
    | false =>
      go_wp2
      go_ret
      exact ⟨rfl, by first | exact below_drew _ _ _ HH.out.2.2.2.2.2 | exact below_drew _ _ _ (below_drew _ _ _ HH.out.2.2.2.2.2)⟩
    | true =>
      go_wp2
      obtain ⟨hs, hc, hsb, hcb, hb0, bel⟩ := HH.out
      obtain ⟨rfl, hG⟩ := HR.out
      have hA : Asc n nm := fun k h0 hk => (hG k hk).2 h0
      exact q9 _ _ _ _ _ _ _ _ _ _ _ _ _ _ _ _ _ _ _ _ _ _ _ _ _ _ _ _ _ _ _ _ _ _ _ _ _ _ _ _ _ _ _ _ _ _ _ _ _ _ _ _ _ _ _ _ _ _ _ _ _ _ _ _ _ _ _ _ _ _ _ _ _ _ _ _ _ _ _ _ _ _ _ _ _ _ _ _ _ _ _ _ _ _ _ _ _ _ _ _ _ _ _ _ _ _ _ _ _ _ _ _ _ _ _ _ _ _ _ _ _ _ _ _ _ _ _ _ _ _ _ _ _ _ _ _ _ _ _ _ _ _ _ _ _ _ _ _ _ _ _ _ _ _ _ _ _ _ _ _ _ _ _ _ _ _ _ _ _ _ _ _ _ _ _ _ _ _ _ _ _ _ _ _ _ _ _ _ _ _ _ _ _ _ _ _ _ _ _ _ _ _ _ _ _ a b n c1 c2 t fz name nm cn W _ hn ht hs hc hsb hcb hA hb0 (by first | exact below_drew _ _ _ bel | exact below_drew _ _ _ (below_drew _ _ _ bel))

end Go.Proofs.Qxb6616830a
