/-
  The law of MatchesSpec: the clock is made and ticked.
-/
import Derived.Test.Qxb6616830aL4c
namespace Go.Proofs.Qxb6616830a
open Go.RowKit
set_option linter.unusedVariables false

set_option maxRecDepth 100000 in
set_option maxHeartbeats 4000000 in
theorem r15 (u5 u6 u7 u8 u9 u10 u11 u12 u13 u14 u17 u19 u20 u21 u22 u23 u24 u25 u26 u27 u28 u29 u30 u31 u32 u33 u34 u35 u36 u37 u38 u39 u40 u41 u42 u43 u44 u45 u46 u47 u48 u49 u50 u51 u52 u53 u54 u55 u56 u57 u58 u59 u60 u61 u62 u63 u64 u65 u66 u67 u68 u69 u70 u71 u72 u73 u74 u75 u76 u77 u78 u79 u80 u81 u82 u83 u84 u85 u86 u87 u88 u89 u90 u91 u92 u93 u94 u95 u96 u97 u98 u99 u100 u101 u102 u103 u104 u105 u106 u107 u108 u109 u110 u111 u112 u113 u114 u115 u116 u117 u118 u119 u120 u121 u122 u123 u124 u125 u126 u127 u128 u129 u130 u131 u132 u133 u134 u135 u136 u137 u138 u139 u140 u141 u142 u143 u144 u145 u146 u147 u148 u149 u150 u151 u152 u153 u154 u155 u156 u157 u158 u159 u160 u161 u162 u163 u164 u165 u166 u167 u168 u169 u170 u171 u172 u173 u174 u175 u176 u177 u178 u179 u180 u181 u182 u183 u184 u185 u186 u187 u188 u189 u190 u191 u192 u193 u194 u195 u196 u197 u198 u199 u200 u201 u202 u203 u204 u205 u206 u207 u208 u209 u210 u211 u212 u213 u214 u215 u216 u217 u218 u219 u220 u221 u222 u223 u224 u225 u226 u227 u228 u229 u230 u231 u232 u233 u234 u235 u236 u237 u238 u239 u240 u241 u242 u243 u244 u245 u246 u247 u248 u249 : Value) (a b : Option Addr) (n c1 c2 B1 m g' c' i : Nat) (t old at_ : Int) (fz : Bool) (name : ByteArray) (nm nm' : Nat → ByteArray) (cn cn' : Nat → Int) (sg : Nat → Nat) (W w : World) (hn : n ≤ 65536) (hm : m ≤ 65537) (ho1 : 0 ≤ old) (ho2 : old < 18446744073709551615)
    (hs : StrAt w a n nm) (hc : CntAt w b n cn) (hB1 : w.heap[B1]? = some (.cells #[.slice (some ⟨g', 0, none⟩) m c', .int .u32 i, .bool false] 31 (0, 0))) (hE1 : Ent w g' m nm' cn') (hG : Got n m i nm nm' cn cn' name old at_ sg) (hb0 : ∀ k, k < n → 0 < cn k ∧ cn k ≤ 18446744073709551615) (bel : Below W.heap.size W w) :
    Code.wp Try.prog (dropS 15 (Try.f4.body.getD .skip)) (bodyPost Try.prog Try.f4 fun e w' => e = .returned (.bool true) ∧ Below W.heap.size W w') ⟨#[.slice a n c1, .slice b n c2, .int .u32 t, .bool fz, .string name, u5, u6, u7, u8, u9, u10, u11, u12, u13, u14, .int .u64 old, .int .i64 at_, u17, .pointer (some ⟨B1, 0, none⟩), u19, u20, u21, u22, u23, u24, u25, u26, u27, u28, u29, u30, u31, u32, u33, u34, u35, u36, u37, u38, u39, u40, u41, u42, u43, u44, u45, u46, u47, u48, u49, u50, u51, u52, u53, u54, u55, u56, u57, u58, u59, u60, u61, u62, u63, u64, u65, u66, u67, u68, u69, u70, u71, u72, u73, u74, u75, u76, u77, u78, u79, u80, u81, u82, u83, u84, u85, u86, u87, u88, u89, u90, u91, u92, u93, u94, u95, u96, u97, u98, u99, u100, u101, u102, u103, u104, u105, u106, u107, u108, u109, u110, u111, u112, u113, u114, u115, u116, u117, u118, u119, u120, u121, u122, u123, u124, u125, u126, u127, u128, u129, u130, u131, u132, u133, u134, u135, u136, u137, u138, u139, u140, u141, u142, u143, u144, u145, u146, u147, u148, u149, u150, u151, u152, u153, u154, u155, u156, u157, u158, u159, u160, u161, u162, u163, u164, u165, u166, u167, u168, u169, u170, u171, u172, u173, u174, u175, u176, u177, u178, u179, u180, u181, u182, u183, u184, u185, u186, u187, u188, u189, u190, u191, u192, u193, u194, u195, u196, u197, u198, u199, u200, u201, u202, u203, u204, u205, u206, u207, u208, u209, u210, u211, u212, u213, u214, u215, u216, u217, u218, u219, u220, u221, u222, u223, u224, u225, u226, u227, u228, u229, u230, u231, u232, u233, u234, u235, u236, u237, u238, u239, u240, u241, u242, u243, u244, u245, u246, u247, u248, u249], []⟩ w := by
  have c0 : w.cell? ⟨B1, 0, none⟩ = some (.slice (some ⟨g', 0, none⟩) m c') := (cell_of_row w _ 0 _ _ _ hB1).trans rfl
  have c1' : w.cell? ⟨B1, 1, none⟩ = some (.int .u32 i) := (cell_of_row w _ 1 _ _ _ hB1).trans rfl
  have c2' : w.cell? ⟨B1, 2, none⟩ = some (.bool false) := (cell_of_row w _ 2 _ _ _ hB1).trans rfl
  have HN := hide (names_any g' m c' nm' cn' i false w (by omega) hE1)
  have HP := hide (And.intro hG hb0)
  have HH := hide (And.intro hs (And.intro hc (And.intro bel (And.intro hB1 hE1))))
  clear hs hc bel hB1 hE1 hG hb0
  refine wp_seq (x := headS (dropS 15 (Try.f4.body.getD .skip))) (y := (dropS 16 (Try.f4.body.getD .skip))) ?_
  conv => arg 2; whnf
  go_wp2_with (go_at_call 10; refine HN.out.mono ?_)
  rintro e w1 ⟨h1, rfl, z1, r1, k1⟩
  have HY := hide (And.intro z1 (And.intro r1 k1))
  clear HN z1 r1 k1 c0 c1' c2'
  go_wp2
  obtain ⟨hs, hc, bel, hB1, hE1⟩ := HH.out
  obtain ⟨z1, r1, k1⟩ := HY.out
  replace hs := hs.kp k1 (fun _ _ f => f)
  replace hc := hc.kp k1 (fun _ _ f => f)
  replace hB1 := k1.row hB1 (fun f => f)
  replace hE1 := hE1.kp k1 (fun f => f)
  replace bel := kp_below bel k1
  clear HH HY z1 k1
  have c0 : w1.cell? ⟨B1, 0, none⟩ = some (.slice (some ⟨g', 0, none⟩) m c') := (cell_of_row w1 _ 0 _ _ _ hB1).trans rfl
  have c1' : w1.cell? ⟨B1, 1, none⟩ = some (.int .u32 i) := (cell_of_row w1 _ 1 _ _ _ hB1).trans rfl
  have c2' : w1.cell? ⟨B1, 2, none⟩ = some (.bool false) := (cell_of_row w1 _ 2 _ _ _ hB1).trans rfl
  have HN := hide (counters_any g' m c' nm' cn' i false w1 (by omega) hE1)
  have HH := hide (And.intro hs (And.intro hc (And.intro bel (And.intro r1 hB1))))
  clear hs hc bel hB1 hE1 r1
  refine wp_seq (x := headS (dropS 16 (Try.f4.body.getD .skip))) (y := (dropS 17 (Try.f4.body.getD .skip))) ?_
  conv => arg 2; whnf
  go_wp2_with (go_at_call 11; refine HN.out.mono ?_)
  rintro e w2 ⟨h2, rfl, z2, r2, k2⟩
  have HY := hide (And.intro z2 (And.intro r2 k2))
  clear HN z2 r2 k2 c0 c1' c2'
  go_wp2
  obtain ⟨hs, hc, bel, r1, hB1⟩ := HH.out
  obtain ⟨z2, r2, k2⟩ := HY.out
  exact r17 _ _ _ _ _ _ _ _ _ _ _ _ _ _ _ _ _ _ _ _ _ _ _ _ _ _ _ _ _ _ _ _ _ _ _ _ _ _ _ _ _ _ _ _ _ _ _ _ _ _ _ _ _ _ _ _ _ _ _ _ _ _ _ _ _ _ _ _ _ _ _ _ _ _ _ _ _ _ _ _ _ _ _ _ _ _ _ _ _ _ _ _ _ _ _ _ _ _ _ _ _ _ _ _ _ _ _ _ _ _ _ _ _ _ _ _ _ _ _ _ _ _ _ _ _ _ _ _ _ _ _ _ _ _ _ _ _ _ _ _ _ _ _ _ _ _ _ _ _ _ _ _ _ _ _ _ _ _ _ _ _ _ _ _ _ _ _ _ _ _ _ _ _ _ _ _ _ _ _ _ _ _ _ _ _ _ _ _ _ _ _ _ _ _ _ _ _ _ _ _ _ _ _ _ _ _ _ _ _ _ _ _ _ _ _ _ _ _ _ _ _ _ _ _ _ _ _ _ _ _ _ _ _ _ _ _ _ _ _ _ a b n c1 c2 B1 m h1 h2 i t old at_ fz _ name nm nm' cn cn' sg W w2 hn hm ho1 ho2 (hs.kp k2 (fun _ _ f => f)) (hc.kp k2 (fun _ _ f => f)) (k2.row hB1 (fun f => f)) (k2.row r1 (fun f => f)) r2 HP.out.1 HP.out.2 (kp_below bel k2)

set_option maxRecDepth 100000 in
set_option maxHeartbeats 4000000 in
theorem r13 (u5 u6 u7 u8 u9 u10 u11 u12 u13 u14 u17 u18 u19 u20 u21 u22 u23 u24 u25 u26 u27 u28 u29 u30 u31 u32 u33 u34 u35 u36 u37 u38 u39 u40 u41 u42 u43 u44 u45 u46 u47 u48 u49 u50 u51 u52 u53 u54 u55 u56 u57 u58 u59 u60 u61 u62 u63 u64 u65 u66 u67 u68 u69 u70 u71 u72 u73 u74 u75 u76 u77 u78 u79 u80 u81 u82 u83 u84 u85 u86 u87 u88 u89 u90 u91 u92 u93 u94 u95 u96 u97 u98 u99 u100 u101 u102 u103 u104 u105 u106 u107 u108 u109 u110 u111 u112 u113 u114 u115 u116 u117 u118 u119 u120 u121 u122 u123 u124 u125 u126 u127 u128 u129 u130 u131 u132 u133 u134 u135 u136 u137 u138 u139 u140 u141 u142 u143 u144 u145 u146 u147 u148 u149 u150 u151 u152 u153 u154 u155 u156 u157 u158 u159 u160 u161 u162 u163 u164 u165 u166 u167 u168 u169 u170 u171 u172 u173 u174 u175 u176 u177 u178 u179 u180 u181 u182 u183 u184 u185 u186 u187 u188 u189 u190 u191 u192 u193 u194 u195 u196 u197 u198 u199 u200 u201 u202 u203 u204 u205 u206 u207 u208 u209 u210 u211 u212 u213 u214 u215 u216 u217 u218 u219 u220 u221 u222 u223 u224 u225 u226 u227 u228 u229 u230 u231 u232 u233 u234 u235 u236 u237 u238 u239 u240 u241 u242 u243 u244 u245 u246 u247 u248 u249 : Value) (a b : Option Addr) (n c1 c2 t : Nat) (old at_ : Int) (fz : Bool) (name : ByteArray) (nm : Nat → ByteArray) (cn : Nat → Int) (W w : World) (hn : n ≤ 65536) (ht : t ≤ 4294967295) (hs : StrAt w a n nm) (hc : CntAt w b n cn) (hsb : ∀ q, a = some q → q.block < w.heap.size) (hcb : ∀ q, b = some q → q.block < w.heap.size) (hA : Asc n nm) (hb0 : ∀ k, k < n → 0 < cn k ∧ cn k ≤ 18446744073709551615) (hL : Loc n nm cn name old at_) (hmax : ¬ old = 18446744073709551615) (bel : Below W.heap.size W w) :
    Code.wp Try.prog (dropS 13 (Try.f4.body.getD .skip)) (bodyPost Try.prog Try.f4 fun e w' => e = .returned (.bool true) ∧ Below W.heap.size W w') ⟨#[.slice a n c1, .slice b n c2, .int .u32 t, .bool fz, .string name, u5, u6, u7, u8, u9, u10, u11, u12, u13, u14, .int .u64 old, .int .i64 at_, u17, u18, u19, u20, u21, u22, u23, u24, u25, u26, u27, u28, u29, u30, u31, u32, u33, u34, u35, u36, u37, u38, u39, u40, u41, u42, u43, u44, u45, u46, u47, u48, u49, u50, u51, u52, u53, u54, u55, u56, u57, u58, u59, u60, u61, u62, u63, u64, u65, u66, u67, u68, u69, u70, u71, u72, u73, u74, u75, u76, u77, u78, u79, u80, u81, u82, u83, u84, u85, u86, u87, u88, u89, u90, u91, u92, u93, u94, u95, u96, u97, u98, u99, u100, u101, u102, u103, u104, u105, u106, u107, u108, u109, u110, u111, u112, u113, u114, u115, u116, u117, u118, u119, u120, u121, u122, u123, u124, u125, u126, u127, u128, u129, u130, u131, u132, u133, u134, u135, u136, u137, u138, u139, u140, u141, u142, u143, u144, u145, u146, u147, u148, u149, u150, u151, u152, u153, u154, u155, u156, u157, u158, u159, u160, u161, u162, u163, u164, u165, u166, u167, u168, u169, u170, u171, u172, u173, u174, u175, u176, u177, u178, u179, u180, u181, u182, u183, u184, u185, u186, u187, u188, u189, u190, u191, u192, u193, u194, u195, u196, u197, u198, u199, u200, u201, u202, u203, u204, u205, u206, u207, u208, u209, u210, u211, u212, u213, u214, u215, u216, u217, u218, u219, u220, u221, u222, u223, u224, u225, u226, u227, u228, u229, u230, u231, u232, u233, u234, u235, u236, u237, u238, u239, u240, u241, u242, u243, u244, u245, u246, u247, u248, u249], []⟩ w := by
  have HN := hide (new_any a b n c1 c2 nm cn t fz w (by omega) hs hc)
  have HH := hide (And.intro hs (And.intro hc (And.intro hsb (And.intro hcb (And.intro hA (And.intro hb0 (And.intro hL (And.intro hmax bel))))))))
  clear hs hc bel hsb hcb hA hb0 hL hmax
  refine wp_seq (x := headS (dropS 13 (Try.f4.body.getD .skip))) (y := (dropS 14 (Try.f4.body.getD .skip))) ?_
  conv => arg 2; whnf
  go_wp2_with (go_at_call 8; refine HN.out.mono ?_)
  rintro e w1 ⟨g, rfl, hg, hE, hk⟩
  have HY := hide (And.intro hg (And.intro hE hk))
  clear HN hg hE hk
  go_wp2
  obtain ⟨hs, hc, hsb, hcb, hA, hb0, hL, hmax, bel⟩ := HH.out
  obtain ⟨hg, hE, hk⟩ := HY.out
  obtain ⟨w2, hw2⟩ : ∃ x, w1.alloc (.cells #[.slice (some ⟨g, 0, none⟩) n n, .int .u32 t, .bool fz] 31) = x := ⟨_, rfl⟩
  have k2 : Kp (fun _ => False) w1 w2 := by rw [← hw2]; exact (Kp.refl _ w1).alloc _
  have b1 : w2.heap[w1.heap.size]? = some (.cells #[.slice (some ⟨g, 0, none⟩) n n, .int .u32 t, .bool fz] 31 (0, 0)) := by rw [← hw2]; exact heap_alloc_new w1 _
  have lg := hE.lt
  have gB : g ≠ w1.heap.size := by omega
  have hbm : ∀ k, k < n → (nm k).toList = name.toList → cn k < 18446744073709551615 := by
    intro k hk' e
    rcases hL with ⟨_, _, h⟩ | ⟨j, h1, h2, h3, h4⟩
    · exact absurd e (h k hk')
    · obtain rfl : j = k := hA.one h1 hk' (h4.trans e.symm)
      have := hb0 j hk'
      omega
  have HT := hide (zztick_any w1.heap.size g n n t nm cn fz name w2 hn (Nat.le_refl _) (by omega) ht hA (hE.kp k2 (fun f => f)) b1 gB (fun k hk' => Int.le_of_lt (hb0 k hk').1) hbm)
  have kw : Kp (fun _ => False) w w2 := hk.trans k2 (fun _ _ f => f)
  have HZ := hide (And.intro k2 (And.intro kw (And.intro gB hg)))
  rw [hw2]
  clear hs hc hsb hcb hA hb0 hL hmax bel hg hE hk k2 b1 gB hbm kw HY hw2
  refine wp_seq (x := headS (dropS 14 (Try.f4.body.getD .skip))) (y := (dropS 15 (Try.f4.body.getD .skip))) ?_
  conv => arg 2; whnf
  go_wp2_with (go_at_call 9; refine HT.out.mono ?_)
  rintro e w3 ⟨rfl, i, f, hF, hyes, hno, k3⟩
  have HU := hide (And.intro hF (And.intro hyes (And.intro hno k3)))
  clear HT hF hyes hno k3
  go_wp2
  obtain ⟨hs, hc, hsb, hcb, hA, hb0, hL, hmax, bel⟩ := HH.out
  obtain ⟨k2, kw, gB, hg⟩ := HZ.out
  obtain ⟨hF, hyes, hno, k3⟩ := HU.out
  have sw : w.heap.size ≤ w1.heap.size := by omega
  have hs2 := hs.kp kw (fun _ _ f => f)
  have hc2 := hc.kp kw (fun _ _ f => f)
  have hSo : ∀ q : Nat, q < w.heap.size → ¬ (q = w1.heap.size ∨ (f = true ∧ fz = false ∧ q = g)) := by
    intro q hq h
    rcases h with h | h
    · omega
    · omega
  have hs3 := hs2.kp k3 (fun q hq => hSo _ (hsb q hq))
  have hc3 := hc2.kp k3 (fun q hq => hSo _ (hcb q hq))
  have bel3 : Below W.heap.size W w3 := by
    refine (kp_below bel kw).trans (k3.below (Nat.le_trans bel.size kw.size) (fun j h => ?_))
    have := bel.size
    rcases h with h | h
    · omega
    · omega
  have hold : 0 ≤ old ∧ old < 18446744073709551615 := by
    rcases hL with ⟨_, h, _⟩ | ⟨k, h1, _, h3, _⟩
    · omega
    · have := hb0 k h1; omega
  obtain ⟨ho1, ho2⟩ := hold
  cases f with
  | true =>
    obtain ⟨g', c', hb, hE', hor⟩ := hyes rfl
    have hGt := got_found hA hb0 hL hmax hF
    exact r15 _ _ _ _ _ _ _ _ _ _ _ _ _ _ _ _ _ _ _ _ _ _ _ _ _ _ _ _ _ _ _ _ _ _ _ _ _ _ _ _ _ _ _ _ _ _ _ _ _ _ _ _ _ _ _ _ _ _ _ _ _ _ _ _ _ _ _ _ _ _ _ _ _ _ _ _ _ _ _ _ _ _ _ _ _ _ _ _ _ _ _ _ _ _ _ _ _ _ _ _ _ _ _ _ _ _ _ _ _ _ _ _ _ _ _ _ _ _ _ _ _ _ _ _ _ _ _ _ _ _ _ _ _ _ _ _ _ _ _ _ _ _ _ _ _ _ _ _ _ _ _ _ _ _ _ _ _ _ _ _ _ _ _ _ _ _ _ _ _ _ _ _ _ _ _ _ _ _ _ _ _ _ _ _ _ _ _ _ _ _ _ _ _ _ _ _ _ _ _ _ _ _ _ _ _ _ _ _ _ _ _ _ _ _ _ _ _ _ _ _ _ _ _ _ _ _ _ _ _ _ _ _ _ _ _ _ _ _ _ _ _ _ a b n c1 c2 w1.heap.size n g' c' i t old at_ fz name nm nm cn (bump cn i) (fun k => k) W w3 hn (by omega) ho1 ho2 hs3 hc3 hb hE' hGt hb0 bel3
  | false =>
    obtain ⟨g', hb, hE', hgg⟩ := hno rfl
    have hGt := got_new hA hb0 hL hF
    exact r15 _ _ _ _ _ _ _ _ _ _ _ _ _ _ _ _ _ _ _ _ _ _ _ _ _ _ _ _ _ _ _ _ _ _ _ _ _ _ _ _ _ _ _ _ _ _ _ _ _ _ _ _ _ _ _ _ _ _ _ _ _ _ _ _ _ _ _ _ _ _ _ _ _ _ _ _ _ _ _ _ _ _ _ _ _ _ _ _ _ _ _ _ _ _ _ _ _ _ _ _ _ _ _ _ _ _ _ _ _ _ _ _ _ _ _ _ _ _ _ _ _ _ _ _ _ _ _ _ _ _ _ _ _ _ _ _ _ _ _ _ _ _ _ _ _ _ _ _ _ _ _ _ _ _ _ _ _ _ _ _ _ _ _ _ _ _ _ _ _ _ _ _ _ _ _ _ _ _ _ _ _ _ _ _ _ _ _ _ _ _ _ _ _ _ _ _ _ _ _ _ _ _ _ _ _ _ _ _ _ _ _ _ _ _ _ _ _ _ _ _ _ _ _ _ _ _ _ _ _ _ _ _ _ _ _ _ _ _ _ _ _ _ a b n c1 c2 w1.heap.size (n + 1) g' (n + 1) i t old at_ fz name nm (ins nm i name) cn (ins cn i 1) (fun k => if k < i then k else k + 1) W w3 hn (by omega) ho1 ho2 hs3 hc3 hb hE' hGt hb0 bel3

set_option maxRecDepth 100000 in
set_option maxHeartbeats 4000000 in
theorem r12 (u5 u6 u7 u8 u9 u10 u11 u12 u13 u14 u17 u18 u19 u20 u21 u22 u23 u24 u25 u26 u27 u28 u29 u30 u31 u32 u33 u34 u35 u36 u37 u38 u39 u40 u41 u42 u43 u44 u45 u46 u47 u48 u49 u50 u51 u52 u53 u54 u55 u56 u57 u58 u59 u60 u61 u62 u63 u64 u65 u66 u67 u68 u69 u70 u71 u72 u73 u74 u75 u76 u77 u78 u79 u80 u81 u82 u83 u84 u85 u86 u87 u88 u89 u90 u91 u92 u93 u94 u95 u96 u97 u98 u99 u100 u101 u102 u103 u104 u105 u106 u107 u108 u109 u110 u111 u112 u113 u114 u115 u116 u117 u118 u119 u120 u121 u122 u123 u124 u125 u126 u127 u128 u129 u130 u131 u132 u133 u134 u135 u136 u137 u138 u139 u140 u141 u142 u143 u144 u145 u146 u147 u148 u149 u150 u151 u152 u153 u154 u155 u156 u157 u158 u159 u160 u161 u162 u163 u164 u165 u166 u167 u168 u169 u170 u171 u172 u173 u174 u175 u176 u177 u178 u179 u180 u181 u182 u183 u184 u185 u186 u187 u188 u189 u190 u191 u192 u193 u194 u195 u196 u197 u198 u199 u200 u201 u202 u203 u204 u205 u206 u207 u208 u209 u210 u211 u212 u213 u214 u215 u216 u217 u218 u219 u220 u221 u222 u223 u224 u225 u226 u227 u228 u229 u230 u231 u232 u233 u234 u235 u236 u237 u238 u239 u240 u241 u242 u243 u244 u245 u246 u247 u248 u249 : Value) (a b : Option Addr) (n c1 c2 t : Nat) (old at_ : Int) (fz : Bool) (name : ByteArray) (nm : Nat → ByteArray) (cn : Nat → Int) (W w : World) (hn : n ≤ 65536) (ht : t ≤ 4294967295) (hs : StrAt w a n nm) (hc : CntAt w b n cn) (hsb : ∀ q, a = some q → q.block < w.heap.size) (hcb : ∀ q, b = some q → q.block < w.heap.size) (hA : Asc n nm) (hb0 : ∀ k, k < n → 0 < cn k ∧ cn k ≤ 18446744073709551615) (hL : Loc n nm cn name old at_) (ho : 0 ≤ old ∧ old ≤ 18446744073709551615) (bel : Below W.heap.size W w) :
    Code.wp Try.prog (dropS 12 (Try.f4.body.getD .skip)) (bodyPost Try.prog Try.f4 fun e w' => e = .returned (.bool true) ∧ Below W.heap.size W w') ⟨#[.slice a n c1, .slice b n c2, .int .u32 t, .bool fz, .string name, u5, u6, u7, u8, u9, u10, u11, u12, u13, u14, .int .u64 old, .int .i64 at_, u17, u18, u19, u20, u21, u22, u23, u24, u25, u26, u27, u28, u29, u30, u31, u32, u33, u34, u35, u36, u37, u38, u39, u40, u41, u42, u43, u44, u45, u46, u47, u48, u49, u50, u51, u52, u53, u54, u55, u56, u57, u58, u59, u60, u61, u62, u63, u64, u65, u66, u67, u68, u69, u70, u71, u72, u73, u74, u75, u76, u77, u78, u79, u80, u81, u82, u83, u84, u85, u86, u87, u88, u89, u90, u91, u92, u93, u94, u95, u96, u97, u98, u99, u100, u101, u102, u103, u104, u105, u106, u107, u108, u109, u110, u111, u112, u113, u114, u115, u116, u117, u118, u119, u120, u121, u122, u123, u124, u125, u126, u127, u128, u129, u130, u131, u132, u133, u134, u135, u136, u137, u138, u139, u140, u141, u142, u143, u144, u145, u146, u147, u148, u149, u150, u151, u152, u153, u154, u155, u156, u157, u158, u159, u160, u161, u162, u163, u164, u165, u166, u167, u168, u169, u170, u171, u172, u173, u174, u175, u176, u177, u178, u179, u180, u181, u182, u183, u184, u185, u186, u187, u188, u189, u190, u191, u192, u193, u194, u195, u196, u197, u198, u199, u200, u201, u202, u203, u204, u205, u206, u207, u208, u209, u210, u211, u212, u213, u214, u215, u216, u217, u218, u219, u220, u221, u222, u223, u224, u225, u226, u227, u228, u229, u230, u231, u232, u233, u234, u235, u236, u237, u238, u239, u240, u241, u242, u243, u244, u245, u246, u247, u248, u249], []⟩ w := by
  have HH := hide (And.intro hs (And.intro hc (And.intro hsb (And.intro hcb (And.intro hA (And.intro hb0 (And.intro hL bel)))))))
  clear hs hc bel hsb hcb hA hb0 hL
  refine wp_seq (x := headS (dropS 12 (Try.f4.body.getD .skip))) (y := (dropS 13 (Try.f4.body.getD .skip))) ?_
  conv => arg 2; whnf
  by_cases hmax : old = 18446744073709551615
  · subst hmax
    go_wp2
    go_ret
    exact ⟨rfl, HH.out.2.2.2.2.2.2.2⟩
  · go_wp2
    obtain ⟨hs, hc, hsb, hcb, hA, hb0, hL, bel⟩ := HH.out
    exact r13 _ _ _ _ _ _ _ _ _ _ _ _ _ _ _ _ _ _ _ _ _ _ _ _ _ _ _ _ _ _ _ _ _ _ _ _ _ _ _ _ _ _ _ _ _ _ _ _ _ _ _ _ _ _ _ _ _ _ _ _ _ _ _ _ _ _ _ _ _ _ _ _ _ _ _ _ _ _ _ _ _ _ _ _ _ _ _ _ _ _ _ _ _ _ _ _ _ _ _ _ _ _ _ _ _ _ _ _ _ _ _ _ _ _ _ _ _ _ _ _ _ _ _ _ _ _ _ _ _ _ _ _ _ _ _ _ _ _ _ _ _ _ _ _ _ _ _ _ _ _ _ _ _ _ _ _ _ _ _ _ _ _ _ _ _ _ _ _ _ _ _ _ _ _ _ _ _ _ _ _ _ _ _ _ _ _ _ _ _ _ _ _ _ _ _ _ _ _ _ _ _ _ _ _ _ _ _ _ _ _ _ _ _ _ _ _ _ _ _ _ _ _ _ _ _ _ _ _ _ _ _ _ _ _ _ _ _ _ _ _ _ _ _ a b n c1 c2 t old at_ fz name nm cn W w hn ht hs hc hsb hcb hA hb0 hL hmax bel

end Go.Proofs.Qxb6616830a
