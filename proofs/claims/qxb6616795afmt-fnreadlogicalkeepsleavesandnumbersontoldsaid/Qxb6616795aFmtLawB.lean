/-
  The law's text behind the copies, piece by piece: each piece is a theorem over the code that is left ('dropS k') and a frame in which every slot that doesn't matter is a letter.
-/
import Derived.Test.Qxb6616795aFmtLawA
import Derived.Test.Qxb6616795aFmtZZ
namespace Go.Proofs.Qxb6616795aFmt
open Go.RowKit
set_option linter.unusedVariables false

def dropS : Nat → Code → Code
  | 0, c => c
  | n + 1, .seq _ b => dropS n b
  | _, c => c
def headS : Code → Code
  | .seq a _ => a
  | c => c

/-- What is known behind the two calls. -/
structure Two (W w : World) (c : List (Int × Int) × Bool) (LN LF LL : List Int) (nu nv : Int) (b1 b2 b3 g1 g2 g3 m1 m2 : Nat) (e1 e2 : Int) (r1 r2 : Value) : Prop where
  k1 : (zzN c LN nu).length = m1
  k2 : (zzN c [] nv).length = m2
  x1 : w.heap[b1]? = some (.cells (i64V (zzN c LN nu)).toArray 3 (0, 0))
  x2 : w.heap[b2]? = some (.cells (i64V (zzF c LF)).toArray 2 (0, 0))
  x3 : w.heap[b3]? = some (.cells (i64V (zzL c LL)).toArray 2 (0, 0))
  y1 : w.heap[g1]? = some (.cells (i64V (zzN c [] nv)).toArray 3 (0, 0))
  y2 : w.heap[g2]? = some (.cells (i64V (zzF c [])).toArray 2 (0, 0))
  y3 : w.heap[g3]? = some (.cells (i64V (zzL c [])).toArray 2 (0, 0))
  n1 : e1 = nu + c.1.length
  n2 : e2 = nv + c.1.length
  ok1 : c.2 = true → r1 = .nilIface
  ok2 : c.2 = true → r2 = .nilIface
  no1 : c.2 = false → ∃ T p, r1 = .iface T (.pointer (some p))
  no2 : c.2 = false → ∃ T p, r2 = .iface T (.pointer (some p))
  bel : Below W.heap.size W w

theorem getD_left (A B : List Int) (k : Nat) (h : k < A.length) : (A ++ B).getD k 0 = A.getD k 0 := by
  simp [List.getElem?_append, h]
theorem getD_right (A B : List Int) (n j : Nat) (h : A.length = n) : (A ++ B).getD (n + j) 0 = B.getD j 0 := by
  simp only [List.getD_eq_getElem?_getD, List.getElem?_append, h]
  rw [if_neg (by omega), show n + j - n = j from by omega]

/-- What is known of the chain. -/
structure Cha (c : List (Int × Int) × Bool) (n0 : Nat) (z : Int) : Prop where
  len : c.1.length ≤ 256
  far : n0 < z + 512 → c = ([], false)
theorem cha (D : List Int) (ss ef el : Int) (h0 : 0 ≤ ef * ss) : Cha (chain D ss ef el 256 ef) D.length (ef * ss) := by
  refine ⟨chain_length _ _ _ _ _ _, fun h => chain_far D ss ef el 255 ef (by omega)⟩

/-- What the law's own leaves are. -/
def Leaves (w : World) (l6 l7 l8 : Option Addr) (n : Nat) (LN LF LL : List Int) : Prop :=
  LN.length = n ∧ LF.length = n ∧ LL.length = n ∧ (n = 0 ∨ ∃ y6 y7 y8, l6 = some ⟨y6, 0, none⟩ ∧ l7 = some ⟨y7, 0, none⟩ ∧ l8 = some ⟨y8, 0, none⟩ ∧
    w.heap[y6]? = some (.cells (i64V LN).toArray 3 (0, 0)) ∧ w.heap[y7]? = some (.cells (i64V LF).toArray 2 (0, 0)) ∧ w.heap[y8]? = some (.cells (i64V LL).toArray 2 (0, 0)))
theorem Leaves.kp {a b : World} {l6 l7 l8 : Option Addr} {n : Nat} {LN LF LL : List Int} (h : Leaves a l6 l7 l8 n LN LF LL) (hk : Kp (fun _ => False) a b) : Leaves b l6 l7 l8 n LN LF LL := by
  obtain ⟨h1, h2, h3, h4⟩ := h
  refine ⟨h1, h2, h3, ?_⟩
  rcases h4 with h | ⟨y6, y7, y8, q1, q2, q3, q4, q5, q6⟩
  · exact .inl h
  · exact .inr ⟨y6, y7, y8, q1, q2, q3, hk.row q4 (fun f => f), hk.row q5 (fun f => f), hk.row q6 (fun f => f)⟩

set_option maxRecDepth 100000 in
set_option maxHeartbeats 4000000 in
theorem p14_bad (u10 u11 u12 u13 u14 u15 u16 u17 u18 u19 u20 u21 u22 u23 u24 u35 u36 u37 u38 u39 u40 u41 u42 u43 u44 u45 u46 u47 u48 u49 u50 u51 u52 u53 u54 u55 u56 u57 u58 u59 u60 u61 u62 u63 u64 u65 u66 u67 u68 u69 u70 u71 u72 u73 u74 u75 u76 u77 u78 u79 u80 u81 u82 u83 u84 u85 u86 u87 u88 u89 u90 u91 u92 u93 u94 u95 u96 u97 u98 u99 u100 u101 u102 u103 u104 u105 u106 u107 u108 u109 u110 u111 u112 u113 u114 u115 u116 u117 u118 u119 u120 u121 u122 u123 u124 u125 u126 u127 u128 u129 u130 u131 u132 u133 u134 u135 u136 u137 u138 u139 u140 u141 u142 u143 u144 u145 u146 u147 u148 u149 u150 u151 u152 u153 u154 u155 u156 u157 u158 u159 u160 u161 u162 u163 u164 u165 u166 u167 u168 u169 u170 u171 u172 u173 u174 u175 u176 u177 u178 u179 u180 u181 u182 u183 u184 u185 u186 u187 u188 u189 u190 u191 u192 u193 u194 u195 u196 u197 u198 u199 u200 u201 u202 u203 u204 u205 u206 u207 u208 u209 u210 u211 u212 u213 u214 u215 u216 u217 u218 u219 u220 u221 u222 u223 u224 u225 u226 u227 u228 u229 u230 u231 u232 u233 u234 u235 u236 u237 u238 u239 u240 u241 u242 u243 u244 u245 u246 u247 u248 u249 u250 u251 u252 u253 u254 u255 u256 u257 u258 u259 u260 u261 u262 u263 u264 u265 u266 u267 u268 u269 u270 u271 u272 u273 u274 u275 u276 u277 u278 u279 u280 u281 u282 u283 u284 u285 u286 u287 u288 u289 u290 u291 u292 u293 u294 u295 u296 u297 u298 u299 u300 u301 u302 u303 u304 u305 u306 u307 u308 u309 u310 u311 u312 u313 u314 u315 u316 u317 u318 u319 u320 u321 u322 u323 u324 u325 u326 u327 u328 u329 u330 u331 u332 u333 u334 u335 u336 u337 u338 u339 u340 u341 u342 u343 u344 u345 u346 u347 u348 u349 u350 u351 u352 u353 u354 u355 u356 u357 u358 u359 u360 u361 u362 u363 u364 u365 u366 u367 u368 u369 : Value) (da l6 l7 l8 : Option Addr) (n0 dc n m1 m2 b1 b2 b3 g1 g2 g3 : Nat) (ss en ef el nu nv e1 e2 : Int) (r1 r2 : Value) (LN LF LL : List Int) (c : List (Int × Int) × Bool) (W w : World) (hT : Two W w c LN LF LL nu nv b1 b2 b3 g1 g2 g3 m1 m2 e1 e2 r1 r2) (hc : c.2 = false)
    (h0 : n0 ≤ 524288) (s1 : 512 ≤ ss) (s2 : ss ≤ 65536) (f1 : 0 ≤ ef) (f2 : ef ≤ el) (f3 : el ≤ 1099511627776) (u1 : -1073741824 ≤ nu) (u2 : nu ≤ 1073741824) (v1 : -1073741824 ≤ nv) (v2 : nv ≤ 1073741824) (hcl : c.1.length ≤ 256) (hfar : n0 < ef * ss + 512 → c.1 = []) :
    Code.wp Tryf.prog (dropS 14 (Tryf.f3.body.getD .skip)) (bodyPost Tryf.prog Tryf.f3 fun e w' => e = .returned (.bool true) ∧ Below W.heap.size W w') ⟨#[.slice da n0 dc, .int .i64 ss, .int .i64 en, .int .i64 ef, .int .i64 el, .int .i64 nu, .slice l6 n n, .slice l7 n n, .slice l8 n n, .int .i64 nv, u10, u11, u12, u13, u14, u15, u16, u17, u18, u19, u20, u21, u22, u23, u24, .slice (some ⟨b1, 0, none⟩) m1 m1, .slice (some ⟨b2, 0, none⟩) m1 m1, .slice (some ⟨b3, 0, none⟩) m1 m1, .int .i64 e1, r1, .slice (some ⟨g1, 0, none⟩) m2 m2, .slice (some ⟨g2, 0, none⟩) m2 m2, .slice (some ⟨g3, 0, none⟩) m2 m2, .int .i64 e2, r2, u35, u36, u37, u38, u39, u40, u41, u42, u43, u44, u45, u46, u47, u48, u49, u50, u51, u52, u53, u54, u55, u56, u57, u58, u59, u60, u61, u62, u63, u64, u65, u66, u67, u68, u69, u70, u71, u72, u73, u74, u75, u76, u77, u78, u79, u80, u81, u82, u83, u84, u85, u86, u87, u88, u89, u90, u91, u92, u93, u94, u95, u96, u97, u98, u99, u100, u101, u102, u103, u104, u105, u106, u107, u108, u109, u110, u111, u112, u113, u114, u115, u116, u117, u118, u119, u120, u121, u122, u123, u124, u125, u126, u127, u128, u129, u130, u131, u132, u133, u134, u135, u136, u137, u138, u139, u140, u141, u142, u143, u144, u145, u146, u147, u148, u149, u150, u151, u152, u153, u154, u155, u156, u157, u158, u159, u160, u161, u162, u163, u164, u165, u166, u167, u168, u169, u170, u171, u172, u173, u174, u175, u176, u177, u178, u179, u180, u181, u182, u183, u184, u185, u186, u187, u188, u189, u190, u191, u192, u193, u194, u195, u196, u197, u198, u199, u200, u201, u202, u203, u204, u205, u206, u207, u208, u209, u210, u211, u212, u213, u214, u215, u216, u217, u218, u219, u220, u221, u222, u223, u224, u225, u226, u227, u228, u229, u230, u231, u232, u233, u234, u235, u236, u237, u238, u239, u240, u241, u242, u243, u244, u245, u246, u247, u248, u249, u250, u251, u252, u253, u254, u255, u256, u257, u258, u259, u260, u261, u262, u263, u264, u265, u266, u267, u268, u269, u270, u271, u272, u273, u274, u275, u276, u277, u278, u279, u280, u281, u282, u283, u284, u285, u286, u287, u288, u289, u290, u291, u292, u293, u294, u295, u296, u297, u298, u299, u300, u301, u302, u303, u304, u305, u306, u307, u308, u309, u310, u311, u312, u313, u314, u315, u316, u317, u318, u319, u320, u321, u322, u323, u324, u325, u326, u327, u328, u329, u330, u331, u332, u333, u334, u335, u336, u337, u338, u339, u340, u341, u342, u343, u344, u345, u346, u347, u348, u349, u350, u351, u352, u353, u354, u355, u356, u357, u358, u359, u360, u361, u362, u363, u364, u365, u366, u367, u368, u369], []⟩ w := by
  have hm1 : m1 = 0 := by rw [← hT.k1]; simp [zzN, hc]
  have hm2 : m2 = 0 := by rw [← hT.k2]; simp [zzN, hc]
  obtain ⟨T1, p1, hr1⟩ := hT.no1 hc
  obtain ⟨T2, p2, hr2⟩ := hT.no2 hc
  have hn1 := hT.n1
  have hn2 := hT.n2
  have HT := hide hT
  clear hT
  subst hm1 hm2 hr1 hr2 hn1 hn2
  obtain ⟨q, hq⟩ : ∃ q : Nat, c.1.length = q := ⟨_, rfl⟩
  have HQ := hide hq
  rw [hq] at hcl
  obtain ⟨z, hz⟩ : ∃ z : Int, ef * ss = z := ⟨_, rfl⟩
  have hz1 : 0 ≤ z := by rw [← hz]; exact Int.mul_nonneg f1 (by omega)
  have hz2 : z ≤ 72057594037927936 := by
    have : ef * ss ≤ 1099511627776 * 65536 := Int.mul_le_mul (by omega) s2 (by omega) (by omega)
    omega
  rw [hq]
  clear hq
  have hne : (nu + (q : Int) - nu != nv + (q : Int) - nv) = false := by
    have e : nu + (q : Int) - nu = nv + (q : Int) - nv := by omega
    simp [e]
  have hge : nv ≤ nv + (q : Int) := by omega
  have hge2 : ¬ (nv + (q : Int) - nv < 0) := by omega
  conv => arg 2; whnf
  by_cases hfr : (n0 : Int) - 512 < z
  · have hq0 : q = 0 := by
      rw [← HQ.out, hfar (by rw [hz]; omega)]; rfl
    subst hq0
    go_wp2
    go_quiet (fail)
    go_wp2
    go_ret
    exact ⟨rfl, below_drewN HT.out.bel _⟩
  · go_wp2
    go_quiet (fail)
    go_wp2
    go_ret
    exact ⟨rfl, below_drewN HT.out.bel _⟩

set_option maxRecDepth 100000 in
set_option maxHeartbeats 4000000 in
theorem p14_ok (u10 u11 u12 u13 u14 u15 u16 u17 u18 u19 u20 u21 u22 u23 u24 u35 u36 u37 u38 u39 u40 u41 u42 u43 u44 u45 u46 u47 u48 u49 u50 u51 u52 u53 u54 u55 u56 u57 u58 u59 u60 u61 u62 u63 u64 u65 u66 u67 u68 u69 u70 u71 u72 u73 u74 u75 u76 u77 u78 u79 u80 u81 u82 u83 u84 u85 u86 u87 u88 u89 u90 u91 u92 u93 u94 u95 u96 u97 u98 u99 u100 u101 u102 u103 u104 u105 u106 u107 u108 u109 u110 u111 u112 u113 u114 u115 u116 u117 u118 u119 u120 u121 u122 u123 u124 u125 u126 u127 u128 u129 u130 u131 u132 u133 u134 u135 u136 u137 u138 u139 u140 u141 u142 u143 u144 u145 u146 u147 u148 u149 u150 u151 u152 u153 u154 u155 u156 u157 u158 u159 u160 u161 u162 u163 u164 u165 u166 u167 u168 u169 u170 u171 u172 u173 u174 u175 u176 u177 u178 u179 u180 u181 u182 u183 u184 u185 u186 u187 u188 u189 u190 u191 u192 u193 u194 u195 u196 u197 u198 u199 u200 u201 u202 u203 u204 u205 u206 u207 u208 u209 u210 u211 u212 u213 u214 u215 u216 u217 u218 u219 u220 u221 u222 u223 u224 u225 u226 u227 u228 u229 u230 u231 u232 u233 u234 u235 u236 u237 u238 u239 u240 u241 u242 u243 u244 u245 u246 u247 u248 u249 u250 u251 u252 u253 u254 u255 u256 u257 u258 u259 u260 u261 u262 u263 u264 u265 u266 u267 u268 u269 u270 u271 u272 u273 u274 u275 u276 u277 u278 u279 u280 u281 u282 u283 u284 u285 u286 u287 u288 u289 u290 u291 u292 u293 u294 u295 u296 u297 u298 u299 u300 u301 u302 u303 u304 u305 u306 u307 u308 u309 u310 u311 u312 u313 u314 u315 u316 u317 u318 u319 u320 u321 u322 u323 u324 u325 u326 u327 u328 u329 u330 u331 u332 u333 u334 u335 u336 u337 u338 u339 u340 u341 u342 u343 u344 u345 u346 u347 u348 u349 u350 u351 u352 u353 u354 u355 u356 u357 u358 u359 u360 u361 u362 u363 u364 u365 u366 u367 u368 u369 : Value) (da l6 l7 l8 : Option Addr) (n0 dc n q b1 b2 b3 g1 g2 g3 : Nat) (ss en ef el nu nv e1 e2 : Int) (A B C F L : Nat → Int) (W w : World)
    (h0 : n0 ≤ 524288) (hn : n ≤ 16384) (hq : q ≤ 256) (s1 : 512 ≤ ss) (s2 : ss ≤ 65536) (f1 : 0 ≤ ef) (f2 : ef ≤ el) (f3 : el ≤ 1099511627776) (u1 : -1073741824 ≤ nu) (u2 : nu ≤ 1073741824) (v1 : -1073741824 ≤ nv) (v2 : nv ≤ 1073741824)
    (hnear : ef * ss + 512 ≤ n0) (hf1 : e1 - nu = q) (hf2 : e2 - nv = q) (bel : Below W.heap.size W w)
    (hl : n = 0 ∨ ∃ y6 y7 y8, l6 = some ⟨y6, 0, none⟩ ∧ l7 = some ⟨y7, 0, none⟩ ∧ l8 = some ⟨y8, 0, none⟩ ∧ ∀ k, k < n → w.cell? ⟨y6, k, none⟩ = some (.int .i64 (A k)) ∧ w.cell? ⟨y7, k, none⟩ = some (.int .i64 (B k)) ∧ w.cell? ⟨y8, k, none⟩ = some (.int .i64 (C k)))
    (hx : ∀ k, k < n → w.cell? ⟨b1, k, none⟩ = some (.int .i64 (A k)) ∧ w.cell? ⟨b2, k, none⟩ = some (.int .i64 (B k)) ∧ w.cell? ⟨b3, k, none⟩ = some (.int .i64 (C k)))
    (hy : ∀ j, j < q → w.cell? ⟨b1, n + j, none⟩ = some (.int .i64 (nu + j)) ∧ w.cell? ⟨b2, n + j, none⟩ = some (.int .i64 (F j)) ∧ w.cell? ⟨b3, n + j, none⟩ = some (.int .i64 (L j)))
    (hg : ∀ j, j < q → w.cell? ⟨g1, j, none⟩ = some (.int .i64 (nv + j)) ∧ w.cell? ⟨g2, j, none⟩ = some (.int .i64 (F j)) ∧ w.cell? ⟨g3, j, none⟩ = some (.int .i64 (L j))) :
    Code.wp Tryf.prog (dropS 14 (Tryf.f3.body.getD .skip)) (bodyPost Tryf.prog Tryf.f3 fun e w' => e = .returned (.bool true) ∧ Below W.heap.size W w') ⟨#[.slice da n0 dc, .int .i64 ss, .int .i64 en, .int .i64 ef, .int .i64 el, .int .i64 nu, .slice l6 n n, .slice l7 n n, .slice l8 n n, .int .i64 nv, u10, u11, u12, u13, u14, u15, u16, u17, u18, u19, u20, u21, u22, u23, u24, .slice (some ⟨b1, 0, none⟩) (n + q) (n + q), .slice (some ⟨b2, 0, none⟩) (n + q) (n + q), .slice (some ⟨b3, 0, none⟩) (n + q) (n + q), .int .i64 e1, .nilIface, .slice (some ⟨g1, 0, none⟩) q q, .slice (some ⟨g2, 0, none⟩) q q, .slice (some ⟨g3, 0, none⟩) q q, .int .i64 e2, .nilIface, u35, u36, u37, u38, u39, u40, u41, u42, u43, u44, u45, u46, u47, u48, u49, u50, u51, u52, u53, u54, u55, u56, u57, u58, u59, u60, u61, u62, u63, u64, u65, u66, u67, u68, u69, u70, u71, u72, u73, u74, u75, u76, u77, u78, u79, u80, u81, u82, u83, u84, u85, u86, u87, u88, u89, u90, u91, u92, u93, u94, u95, u96, u97, u98, u99, u100, u101, u102, u103, u104, u105, u106, u107, u108, u109, u110, u111, u112, u113, u114, u115, u116, u117, u118, u119, u120, u121, u122, u123, u124, u125, u126, u127, u128, u129, u130, u131, u132, u133, u134, u135, u136, u137, u138, u139, u140, u141, u142, u143, u144, u145, u146, u147, u148, u149, u150, u151, u152, u153, u154, u155, u156, u157, u158, u159, u160, u161, u162, u163, u164, u165, u166, u167, u168, u169, u170, u171, u172, u173, u174, u175, u176, u177, u178, u179, u180, u181, u182, u183, u184, u185, u186, u187, u188, u189, u190, u191, u192, u193, u194, u195, u196, u197, u198, u199, u200, u201, u202, u203, u204, u205, u206, u207, u208, u209, u210, u211, u212, u213, u214, u215, u216, u217, u218, u219, u220, u221, u222, u223, u224, u225, u226, u227, u228, u229, u230, u231, u232, u233, u234, u235, u236, u237, u238, u239, u240, u241, u242, u243, u244, u245, u246, u247, u248, u249, u250, u251, u252, u253, u254, u255, u256, u257, u258, u259, u260, u261, u262, u263, u264, u265, u266, u267, u268, u269, u270, u271, u272, u273, u274, u275, u276, u277, u278, u279, u280, u281, u282, u283, u284, u285, u286, u287, u288, u289, u290, u291, u292, u293, u294, u295, u296, u297, u298, u299, u300, u301, u302, u303, u304, u305, u306, u307, u308, u309, u310, u311, u312, u313, u314, u315, u316, u317, u318, u319, u320, u321, u322, u323, u324, u325, u326, u327, u328, u329, u330, u331, u332, u333, u334, u335, u336, u337, u338, u339, u340, u341, u342, u343, u344, u345, u346, u347, u348, u349, u350, u351, u352, u353, u354, u355, u356, u357, u358, u359, u360, u361, u362, u363, u364, u365, u366, u367, u368, u369], []⟩ w := by
  obtain ⟨z, hz⟩ : ∃ z : Int, ef * ss = z := ⟨_, rfl⟩
  have hz1 : 0 ≤ z := by rw [← hz]; exact Int.mul_nonneg f1 (by omega)
  have hz2 : z ≤ 72057594037927936 := by
    have : ef * ss ≤ 1099511627776 * 65536 := Int.mul_le_mul (by omega) s2 (by omega) (by omega)
    omega
  rw [hz] at hnear
  have hfr : ¬ ((n0 : Int) - 512 < z) := by omega
  have hb1 : nu ≤ e1 := by omega
  have hb2 : nv ≤ e2 := by omega
  have hb3 : e1 ≤ nu + 256 := by omega
  have hb4 : e2 ≤ nv + 256 := by omega
  have HL := hide hl
  have HX := hide hx
  have HY := hide hy
  have HG := hide hg
  have HB := hide bel
  clear hl hx hy hg bel
  conv => arg 2; whnf
  go_wp2
  go_quiet (fail)
  go_wp2
  go_loopw [37] (fun t wr => ∃ k : Nat, k ≤ n ∧ t = .int .i64 k ∧ ∃ d, wr = w.drewN d) (fun t _ => n - (intOf t).toNat)
  case atStart => exact ⟨0, by omega, rfl, _, rfl⟩
  case round =>
    obtain ⟨k, hk, rfl, d, rfl⟩ := hrel
    by_cases hlt : k < n
    · obtain ⟨y6, y7, y8, p6, p7, p8, hc⟩ : ∃ y6 y7 y8, l6 = some ⟨y6, 0, none⟩ ∧ l7 = some ⟨y7, 0, none⟩ ∧ l8 = some ⟨y8, 0, none⟩ ∧ ∀ k, k < n → w.cell? ⟨y6, k, none⟩ = some (.int .i64 (A k)) ∧ w.cell? ⟨y7, k, none⟩ = some (.int .i64 (B k)) ∧ w.cell? ⟨y8, k, none⟩ = some (.int .i64 (C k)) := by
        rcases HL.out with h | h
        · omega
        · exact h
      subst p6 p7 p8
      obtain ⟨c1, c2, c3⟩ := hc k hlt
      obtain ⟨c4, c5, c6⟩ := HX.out k hlt
      have i1 : (k : Int) < (n : Int) := by omega
      have i2 : (k : Int) < (n : Int) + (q : Int) := by omega
      have i3 : k < n + q := by omega
      clear hc HL HX HY HG
      generalize A k = ak at c1 c4
      generalize B k = bk at c2 c5
      generalize C k = ck at c3 c6
      go_wp2
      go_quiet (fail)
      go_wp2
      go_roundw
      case rel => exact ⟨k + 1, by omega, by go_num, d + nq, by first | rfl | rw [World.drewN_drewN]⟩
      case measure => simp [intOf]; omega
    · obtain rfl : k = n := by omega
      go_wp2
      go_loopw [38] (fun t wr => ∃ j : Nat, j ≤ q ∧ t = .int .i64 j ∧ ∃ d, wr = w.drewN d) (fun t _ => q - (intOf t).toNat)
      case atStart => exact ⟨0, by omega, rfl, _, rfl⟩
      case round =>
        obtain ⟨j, hj, rfl, d2, rfl⟩ := hrel
        by_cases hlt2 : j < q
        · obtain ⟨c1, c2, c3⟩ := HG.out j hlt2
          obtain ⟨c4, c5, c6⟩ := HY.out j hlt2
          have i1 : (j : Int) < (q : Int) := by omega
          have i2 : (k : Int) + (j : Int) < (k : Int) + (q : Int) := by omega
          have i3 : k + j < k + q := by omega
          clear HL HX HY HG
          generalize F j = fj at c2 c5
          generalize L j = lj at c3 c6
          go_wp2
          go_quiet (fail)
          go_wp2
          go_roundw
          case rel => exact ⟨j + 1, by omega, by go_num, d2 + nq, by first | rfl | rw [World.drewN_drewN]⟩
          case measure => simp [intOf]; omega
        · obtain rfl : j = q := by omega
          go_wp2
          go_ret
          exact ⟨rfl, below_drewN HB.out _⟩

set_option maxRecDepth 100000 in
set_option maxHeartbeats 4000000 in
theorem p13 (u10 u11 u12 u13 u14 u15 u16 u17 u18 u19 u20 u21 u22 u23 u24 u30 u31 u32 u33 u34 u35 u36 u37 u38 u39 u40 u41 u42 u43 u44 u45 u46 u47 u48 u49 u50 u51 u52 u53 u54 u55 u56 u57 u58 u59 u60 u61 u62 u63 u64 u65 u66 u67 u68 u69 u70 u71 u72 u73 u74 u75 u76 u77 u78 u79 u80 u81 u82 u83 u84 u85 u86 u87 u88 u89 u90 u91 u92 u93 u94 u95 u96 u97 u98 u99 u100 u101 u102 u103 u104 u105 u106 u107 u108 u109 u110 u111 u112 u113 u114 u115 u116 u117 u118 u119 u120 u121 u122 u123 u124 u125 u126 u127 u128 u129 u130 u131 u132 u133 u134 u135 u136 u137 u138 u139 u140 u141 u142 u143 u144 u145 u146 u147 u148 u149 u150 u151 u152 u153 u154 u155 u156 u157 u158 u159 u160 u161 u162 u163 u164 u165 u166 u167 u168 u169 u170 u171 u172 u173 u174 u175 u176 u177 u178 u179 u180 u181 u182 u183 u184 u185 u186 u187 u188 u189 u190 u191 u192 u193 u194 u195 u196 u197 u198 u199 u200 u201 u202 u203 u204 u205 u206 u207 u208 u209 u210 u211 u212 u213 u214 u215 u216 u217 u218 u219 u220 u221 u222 u223 u224 u225 u226 u227 u228 u229 u230 u231 u232 u233 u234 u235 u236 u237 u238 u239 u240 u241 u242 u243 u244 u245 u246 u247 u248 u249 u250 u251 u252 u253 u254 u255 u256 u257 u258 u259 u260 u261 u262 u263 u264 u265 u266 u267 u268 u269 u270 u271 u272 u273 u274 u275 u276 u277 u278 u279 u280 u281 u282 u283 u284 u285 u286 u287 u288 u289 u290 u291 u292 u293 u294 u295 u296 u297 u298 u299 u300 u301 u302 u303 u304 u305 u306 u307 u308 u309 u310 u311 u312 u313 u314 u315 u316 u317 u318 u319 u320 u321 u322 u323 u324 u325 u326 u327 u328 u329 u330 u331 u332 u333 u334 u335 u336 u337 u338 u339 u340 u341 u342 u343 u344 u345 u346 u347 u348 u349 u350 u351 u352 u353 u354 u355 u356 u357 u358 u359 u360 u361 u362 u363 u364 u365 u366 u367 u368 u369 : Value) (da l6 l7 l8 : Option Addr) (n0 dc n m1 b1 b2 b3 : Nat) (ss en ef el nu nv e1 : Int) (r1 : Value) (D LN LF LL : List Int) (c : List (Int × Int) × Bool) (pe pu : Addr) (su : ByteArray) (W w : World)
    (hce : chain D ss ef el 256 ef = c) (hDl : D.length = n0) (hd : DiskAt w (.slice da n0 dc) D) (ce : w.cell? ⟨0, 0, none⟩ = some (.iface 63 (.pointer (some pe)))) (cu : w.cell? ⟨1, 0, none⟩ = some (.iface 63 (.pointer (some pu)))) (cs : w.cell? pu = some (.string su))
    (hlv : Leaves w l6 l7 l8 n LN LF LL) (k1 : (zzN c LN nu).length = m1) (x1 : w.heap[b1]? = some (.cells (i64V (zzN c LN nu)).toArray 3 (0, 0))) (x2 : w.heap[b2]? = some (.cells (i64V (zzF c LF)).toArray 2 (0, 0))) (x3 : w.heap[b3]? = some (.cells (i64V (zzL c LL)).toArray 2 (0, 0)))
    (n1 : e1 = nu + c.1.length) (ok1 : c.2 = true → r1 = .nilIface) (no1 : c.2 = false → ∃ T p, r1 = .iface T (.pointer (some p))) (bel : Below W.heap.size W w)
    (h0 : n0 ≤ 524288) (hn : n ≤ 16384) (s1 : 512 ≤ ss) (s2 : ss ≤ 65536) (f1 : 0 ≤ ef) (f2 : ef ≤ el) (f3 : el ≤ 1099511627776) (u1 : -1073741824 ≤ nu) (u2 : nu ≤ 1073741824) (v1 : -1073741824 ≤ nv) (v2 : nv ≤ 1073741824) :
    Code.wp Tryf.prog (dropS 13 (Tryf.f3.body.getD .skip)) (bodyPost Tryf.prog Tryf.f3 fun e w' => e = .returned (.bool true) ∧ Below W.heap.size W w') ⟨#[.slice da n0 dc, .int .i64 ss, .int .i64 en, .int .i64 ef, .int .i64 el, .int .i64 nu, .slice l6 n n, .slice l7 n n, .slice l8 n n, .int .i64 nv, u10, u11, u12, u13, u14, u15, u16, u17, u18, u19, u20, u21, u22, u23, u24, .slice (some ⟨b1, 0, none⟩) m1 m1, .slice (some ⟨b2, 0, none⟩) m1 m1, .slice (some ⟨b3, 0, none⟩) m1 m1, .int .i64 e1, r1, u30, u31, u32, u33, u34, u35, u36, u37, u38, u39, u40, u41, u42, u43, u44, u45, u46, u47, u48, u49, u50, u51, u52, u53, u54, u55, u56, u57, u58, u59, u60, u61, u62, u63, u64, u65, u66, u67, u68, u69, u70, u71, u72, u73, u74, u75, u76, u77, u78, u79, u80, u81, u82, u83, u84, u85, u86, u87, u88, u89, u90, u91, u92, u93, u94, u95, u96, u97, u98, u99, u100, u101, u102, u103, u104, u105, u106, u107, u108, u109, u110, u111, u112, u113, u114, u115, u116, u117, u118, u119, u120, u121, u122, u123, u124, u125, u126, u127, u128, u129, u130, u131, u132, u133, u134, u135, u136, u137, u138, u139, u140, u141, u142, u143, u144, u145, u146, u147, u148, u149, u150, u151, u152, u153, u154, u155, u156, u157, u158, u159, u160, u161, u162, u163, u164, u165, u166, u167, u168, u169, u170, u171, u172, u173, u174, u175, u176, u177, u178, u179, u180, u181, u182, u183, u184, u185, u186, u187, u188, u189, u190, u191, u192, u193, u194, u195, u196, u197, u198, u199, u200, u201, u202, u203, u204, u205, u206, u207, u208, u209, u210, u211, u212, u213, u214, u215, u216, u217, u218, u219, u220, u221, u222, u223, u224, u225, u226, u227, u228, u229, u230, u231, u232, u233, u234, u235, u236, u237, u238, u239, u240, u241, u242, u243, u244, u245, u246, u247, u248, u249, u250, u251, u252, u253, u254, u255, u256, u257, u258, u259, u260, u261, u262, u263, u264, u265, u266, u267, u268, u269, u270, u271, u272, u273, u274, u275, u276, u277, u278, u279, u280, u281, u282, u283, u284, u285, u286, u287, u288, u289, u290, u291, u292, u293, u294, u295, u296, u297, u298, u299, u300, u301, u302, u303, u304, u305, u306, u307, u308, u309, u310, u311, u312, u313, u314, u315, u316, u317, u318, u319, u320, u321, u322, u323, u324, u325, u326, u327, u328, u329, u330, u331, u332, u333, u334, u335, u336, u337, u338, u339, u340, u341, u342, u343, u344, u345, u346, u347, u348, u349, u350, u351, u352, u353, u354, u355, u356, u357, u358, u359, u360, u361, u362, u363, u364, u365, u366, u367, u368, u369], []⟩ w := by
  have hcha := cha D ss ef el (Int.mul_nonneg f1 (by omega))
  rw [hce, hDl] at hcha
  have HZ := hide (zz_any none none none [] [] [] da n0 dc D ss en ef el nv 0 pe pu su w rfl rfl rfl (by omega) (.inl rfl) hd ce cu cs (by omega) s1 s2 f1 f2 f3 v1 v2)
  rw [hce] at HZ
  have HH := hide (And.intro hcha (And.intro hlv (And.intro k1 (And.intro x1 (And.intro x2 (And.intro x3 (And.intro n1 (And.intro ok1 (And.intro no1 bel)))))))))
  clear hcha hlv k1 x1 x2 x3 n1 ok1 no1 bel hce hDl hd ce cu cs
  refine wp_seq (x := headS (dropS 13 (Tryf.f3.body.getD .skip))) (y := dropS 14 (Tryf.f3.body.getD .skip)) ?_
  conv => arg 2; whnf
  go_wp2_with (go_at_call 5; refine HZ.out.mono ?_)
  rintro e w5 ⟨g1, g2, g3, r2, rfl, y1, y2, y3, ok2, no2, hb⟩
  obtain ⟨hcha, hlv, k1, x1, x2, x3, n1, ok1, no1, bel⟩ := HH.out
  obtain ⟨m2, k2⟩ : ∃ m2, (zzN c [] nv).length = m2 := ⟨_, rfl⟩
  rw [k2]
  have hk : Kp (fun _ => False) w w5 := Kp.of_below hb
  have bel5 : Below W.heap.size W w5 := bel.trans (hb.mono bel.size)
  have HY := hide (And.intro k2 (And.intro y1 (And.intro y2 (And.intro y3 (And.intro ok2 (And.intro no2 (And.intro hk bel5)))))))
  clear HZ hcha hlv k1 x1 x2 x3 n1 ok1 no1 bel k2 y1 y2 y3 ok2 no2 hb hk bel5
  go_wp2
  obtain ⟨hcha, hlv, k1, x1, x2, x3, n1, ok1, no1, bel⟩ := HH.out
  obtain ⟨k2, y1, y2, y3, ok2, no2, hk, bel5⟩ := HY.out
  clear HH HY
  by_cases hc : c.2 = true
  · obtain ⟨ll1, ll2, ll3, hl4⟩ := hlv
    obtain ⟨q, hq⟩ : ∃ q, c.1.length = q := ⟨_, rfl⟩
    have em1 : m1 = n + q := by rw [← k1, ← hq, ← ll1]; simp [zzN, hc, numb_length]
    have em2 : m2 = q := by rw [← k2, ← hq]; simp [zzN, hc, numb_length]
    have er1 := ok1 hc
    have er2 := ok2 hc
    simp only [zzN, zzF, zzL, if_pos hc, List.nil_append] at x1 x2 x3 y1 y2 y3
    rw [hq] at n1 x1 y1
    have lF : (c.1.map Prod.fst).length = q := by simp [hq]
    have lL : (c.1.map Prod.snd).length = q := by simp [hq]
    have hnear : ef * ss + 512 ≤ n0 := by
      rcases Int.lt_or_le n0 (ef * ss + 512) with h | h
      · have := hcha.far h; rw [this] at hc; simp at hc
      · exact h
    have hq256 : q ≤ 256 := by rw [← hq]; exact hcha.len
    have X1 := fun k h => hk.cell (IntRow.cell x1 k h) (fun f => f)
    have X2 := fun k h => hk.cell (IntRow.cell x2 k h) (fun f => f)
    have X3 := fun k h => hk.cell (IntRow.cell x3 k h) (fun f => f)
    rw [hq]
    clear hcha k1 k2 ok1 ok2 no1 no2
    subst em1 em2 er1 er2
    refine p14_ok _ _ _ _ _ _ _ _ _ _ _ _ _ _ _ _ _ _ _ _ _ _ _ _ _ _ _ _ _ _ _ _ _ _ _ _ _ _ _ _ _ _ _ _ _ _ _ _ _ _ _ _ _ _ _ _ _ _ _ _ _ _ _ _ _ _ _ _ _ _ _ _ _ _ _ _ _ _ _ _ _ _ _ _ _ _ _ _ _ _ _ _ _ _ _ _ _ _ _ _ _ _ _ _ _ _ _ _ _ _ _ _ _ _ _ _ _ _ _ _ _ _ _ _ _ _ _ _ _ _ _ _ _ _ _ _ _ _ _ _ _ _ _ _ _ _ _ _ _ _ _ _ _ _ _ _ _ _ _ _ _ _ _ _ _ _ _ _ _ _ _ _ _ _ _ _ _ _ _ _ _ _ _ _ _ _ _ _ _ _ _ _ _ _ _ _ _ _ _ _ _ _ _ _ _ _ _ _ _ _ _ _ _ _ _ _ _ _ _ _ _ _ _ _ _ _ _ _ _ _ _ _ _ _ _ _ _ _ _ _ _ _ _ _ _ _ _ _ _ _ _ _ _ _ _ _ _ _ _ _ _ _ _ _ _ _ _ _ _ _ _ _ _ _ _ _ _ _ _ _ _ _ _ _ _ _ _ _ _ _ _ _ _ _ _ _ _ _ _ _ _ _ _ _ _ _ _ _ _ _ _ _ _ _ _ _ _ _ _ _ _ _ _ _ _ _ _ _ _ _ _ _ _ _ _ _ _ _ _ _ _ _ _ _ _ _ _ _ _ _ da l6 l7 l8 n0 dc n m2 b1 b2 b3 g1 g2 g3 ss en ef el nu nv e1 (nv + m2) (fun k => LN.getD k 0) (fun k => LF.getD k 0) (fun k => LL.getD k 0) (fun k => (c.1.map Prod.fst).getD k 0) (fun k => (c.1.map Prod.snd).getD k 0) W w5 h0 hn hq256 s1 s2 f1 f2 f3 u1 u2 v1 v2 hnear (by rw [n1]; omega) (by omega) bel5 ?_ ?_ ?_ ?_
    · rcases hl4 with h | ⟨y6, y7, y8, q1, q2, q3, q4, q5, q6⟩
      · exact .inl h
      · exact .inr ⟨y6, y7, y8, q1, q2, q3, fun k hkk => ⟨hk.cell (IntRow.cell q4 k (by omega)) (fun f => f), hk.cell (IntRow.cell q5 k (by omega)) (fun f => f), hk.cell (IntRow.cell q6 k (by omega)) (fun f => f)⟩⟩
    · intro k hkk
      have a1 := X1 k (by simp [numb_length, ll1]; omega)
      have a2 := X2 k (by simp [lF, ll2]; omega)
      have a3 := X3 k (by simp [lL, ll3]; omega)
      rw [getD_left _ _ _ (by omega)] at a1 a2 a3
      exact ⟨a1, a2, a3⟩
    · intro j hj
      have a1 := X1 (n + j) (by simp [numb_length, ll1]; omega)
      have a2 := X2 (n + j) (by simp only [List.length_append, lF, ll2]; omega)
      have a3 := X3 (n + j) (by simp only [List.length_append, lL, ll3]; omega)
      rw [getD_right _ _ _ _ ll1, numb_at _ _ _ hj] at a1
      rw [getD_right _ _ _ _ ll2] at a2
      rw [getD_right _ _ _ _ ll3] at a3
      exact ⟨a1, a2, a3⟩
    · intro j hj
      have a1 := IntRow.cell y1 j (by simp [numb_length]; omega)
      rw [numb_at _ _ _ hj] at a1
      exact ⟨a1, IntRow.cell y2 j (by omega), IntRow.cell y3 j (by omega)⟩
  · have hc' : c.2 = false := by simpa using hc
    exact p14_bad _ _ _ _ _ _ _ _ _ _ _ _ _ _ _ _ _ _ _ _ _ _ _ _ _ _ _ _ _ _ _ _ _ _ _ _ _ _ _ _ _ _ _ _ _ _ _ _ _ _ _ _ _ _ _ _ _ _ _ _ _ _ _ _ _ _ _ _ _ _ _ _ _ _ _ _ _ _ _ _ _ _ _ _ _ _ _ _ _ _ _ _ _ _ _ _ _ _ _ _ _ _ _ _ _ _ _ _ _ _ _ _ _ _ _ _ _ _ _ _ _ _ _ _ _ _ _ _ _ _ _ _ _ _ _ _ _ _ _ _ _ _ _ _ _ _ _ _ _ _ _ _ _ _ _ _ _ _ _ _ _ _ _ _ _ _ _ _ _ _ _ _ _ _ _ _ _ _ _ _ _ _ _ _ _ _ _ _ _ _ _ _ _ _ _ _ _ _ _ _ _ _ _ _ _ _ _ _ _ _ _ _ _ _ _ _ _ _ _ _ _ _ _ _ _ _ _ _ _ _ _ _ _ _ _ _ _ _ _ _ _ _ _ _ _ _ _ _ _ _ _ _ _ _ _ _ _ _ _ _ _ _ _ _ _ _ _ _ _ _ _ _ _ _ _ _ _ _ _ _ _ _ _ _ _ _ _ _ _ _ _ _ _ _ _ _ _ _ _ _ _ _ _ _ _ _ _ _ _ _ _ _ _ _ _ _ _ _ _ _ _ _ _ _ _ _ _ _ _ _ _ _ _ _ _ _ _ _ _ _ _ _ _ _ _ _ _ _ _ _ da l6 l7 l8 n0 dc n m1 m2 b1 b2 b3 g1 g2 g3 ss en ef el nu nv e1 _ r1 r2 LN LF LL c W w5 ⟨k1, k2, hk.row x1 (fun f => f), hk.row x2 (fun f => f), hk.row x3 (fun f => f), y1, y2, y3, n1, rfl, ok1, ok2, no1, no2, bel5⟩ hc' h0 s1 s2 f1 f2 f3 u1 u2 v1 v2 hcha.len (fun h => by rw [hcha.far h])
end Go.Proofs.Qxb6616795aFmt
