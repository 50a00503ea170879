/-
  The law of CopySharing: its last pieces.
-/
import Derived.Test.Qxb6616830aTk
namespace Go.Proofs.Qxb6616830a
open Go.RowKit
set_option linter.unusedVariables false

/-- What the copy's counters read as behind the tick. -/
def Dn (n : Nat) (cn dn : Nat → Int) (at_ : Int) (fz : Bool) : Prop := ∀ k, k < n → dn k = if (k : Int) = at_ ∧ fz = false then cn k + 1 else cn k
theorem rowS_cell {w : World} {h n : Nat} {nm : Nat → ByteArray} (r : w.heap[h]? = some (.cells (rowS nm n).toArray 9 (0, 0))) : ∀ k, k < n → w.cell? ⟨h, k, none⟩ = some (.string (nm k)) := by
  intro k hk
  rw [cell_of_row w h k _ _ _ r]
  simpa using rowS_at nm n k hk
theorem rowC_cell {w : World} {h n : Nat} {cn : Nat → Int} (r : w.heap[h]? = some (.cells (rowC cn n).toArray 28 (0, 0))) : ∀ k, k < n → w.cell? ⟨h, k, none⟩ = some (.int .u64 (cn k)) := by
  intro k hk
  rw [cell_of_row w h k _ _ _ r]
  simpa using rowC_at cn n k hk
theorem below_drew (W w : World) (d : Nat) (h : Below W.heap.size W w) : Below W.heap.size W (w.drewN d) := h.trans ⟨rfl, rfl, rfl, Nat.le_refl _, fun _ _ => rfl⟩

set_option maxRecDepth 100000 in
set_option maxHeartbeats 4000000 in
theorem q25 (u5 u6 u7 u8 u9 u10 u11 u12 u13 u14 u17 u18 u19 u20 u21 u22 u23 u26 u27 u28 u29 u30 u31 u32 u33 u34 u35 u36 u37 u38 u39 u40 u41 u42 u43 u44 u45 u46 u47 u48 u49 u50 u51 u52 u53 u54 u55 u56 u57 u58 u59 u60 u61 u62 u63 u64 u65 u66 u67 u68 u69 u70 u71 u72 u73 u74 u75 u76 u77 u78 u79 u80 u81 u82 u83 u84 u85 u86 u87 u88 u89 u90 u91 u92 u93 u94 u95 u96 u97 u98 u99 u100 u101 u102 u103 u104 u105 u106 u107 u108 u109 u110 u111 u112 u113 u114 u115 u116 u117 u118 u119 u120 u121 u122 u123 u124 u125 u126 u127 u128 u129 u130 u131 u132 u133 u134 u135 u136 u137 u138 u139 u140 u141 u142 u143 u144 u145 u146 u147 u148 u149 u150 u151 u152 u153 u154 u155 u156 u157 u158 u159 u160 u161 u162 u163 u164 u165 u166 u167 u168 u169 u170 u171 u172 u173 u174 u175 u176 u177 u178 u179 u180 u181 u182 u183 u184 u185 u186 u187 u188 u189 u190 u191 u192 u193 u194 u195 u196 u197 u198 u199 u200 u201 u202 u203 u204 u205 u206 u207 u208 u209 : Value) (a b : Option Addr) (n c1 c2 h1 h2 : Nat) (t old at_ : Int) (fz : Bool) (name : ByteArray) (nm : Nat → ByteArray) (cn dn : Nat → Int) (W w : World) (hn : n ≤ 65536) (hs : StrAt w a n nm) (hc : CntAt w b n cn) (r1 : w.heap[h1]? = some (.cells (rowS nm n).toArray 9 (0, 0))) (r2 : w.heap[h2]? = some (.cells (rowC dn n).toArray 28 (0, 0))) (hd : Dn n cn dn at_ fz) (hb0 : ∀ k, k < n → 0 ≤ cn k ∧ cn k ≤ 18446744073709551615) (hb1 : ∀ k, k < n → (k : Int) = at_ → cn k < 18446744073709551615) (bel : Below W.heap.size W w) :
    Code.wp Try.prog (dropS 25 (Try.f3.body.getD .skip)) (bodyPost Try.prog Try.f3 fun e w' => e = .returned (.bool true) ∧ Below W.heap.size W w') ⟨#[.slice a n c1, .slice b n c2, .int .u32 t, .bool fz, .string name, u5, u6, u7, u8, u9, u10, u11, u12, u13, u14, .int .u64 old, .int .i64 at_, u17, u18, u19, u20, u21, u22, u23, .slice (some ⟨h1, 0, none⟩) n n, .slice (some ⟨h2, 0, none⟩) n n, u26, u27, u28, u29, u30, u31, u32, u33, u34, u35, u36, u37, u38, u39, u40, u41, u42, u43, u44, u45, u46, u47, u48, u49, u50, u51, u52, u53, u54, u55, u56, u57, u58, u59, u60, u61, u62, u63, u64, u65, u66, u67, u68, u69, u70, u71, u72, u73, u74, u75, u76, u77, u78, u79, u80, u81, u82, u83, u84, u85, u86, u87, u88, u89, u90, u91, u92, u93, u94, u95, u96, u97, u98, u99, u100, u101, u102, u103, u104, u105, u106, u107, u108, u109, u110, u111, u112, u113, u114, u115, u116, u117, u118, u119, u120, u121, u122, u123, u124, u125, u126, u127, u128, u129, u130, u131, u132, u133, u134, u135, u136, u137, u138, u139, u140, u141, u142, u143, u144, u145, u146, u147, u148, u149, u150, u151, u152, u153, u154, u155, u156, u157, u158, u159, u160, u161, u162, u163, u164, u165, u166, u167, u168, u169, u170, u171, u172, u173, u174, u175, u176, u177, u178, u179, u180, u181, u182, u183, u184, u185, u186, u187, u188, u189, u190, u191, u192, u193, u194, u195, u196, u197, u198, u199, u200, u201, u202, u203, u204, u205, u206, u207, u208, u209], []⟩ w := by
  have HS := hide hs
  have HC := hide hc
  have H1 := hide (rowS_cell r1)
  have H2 := hide (rowC_cell r2)
  have HD := hide hd
  have HB0 := hide hb0
  have HB1 := hide hb1
  have BEL := hide bel
  clear hs hc r1 r2 hd hb0 hb1 bel
  conv => arg 2; whnf
  go_wp2
  go_loopw [26] (fun z wr => ∃ k : Nat, k ≤ n ∧ z = .int .i64 k ∧ ∃ m, wr = w.drewN m) (fun z _ => n - (intOf z).toNat)
  case atStart => exact ⟨0, by omega, rfl, 0, rfl⟩
  case round =>
    obtain ⟨k, hk, rfl, m, rfl⟩ := hrel
    by_cases hlt : k < n
    · have hlt' : (k : Int) < (n : Int) := by omega
      obtain ⟨sb, rfl, g1⟩ : ∃ b1, a = some ⟨b1, 0, none⟩ ∧ ∀ k, k < n → w.cell? ⟨b1, k, none⟩ = some (.string (nm k)) := by
        rcases HS.out with h | h
        · omega
        · exact h
      obtain ⟨cb, rfl, g2⟩ : ∃ b2, b = some ⟨b2, 0, none⟩ ∧ ∀ k, k < n → w.cell? ⟨b2, k, none⟩ = some (.int .u64 (cn k)) := by
        rcases HC.out with h | h
        · omega
        · exact h
      have e1 := g1 k hlt
      have e2 := g2 k hlt
      have e3 := H1.out k hlt
      have e4 := H2.out k hlt
      have b0 := HB0.out k hlt
      rw [HD.out k hlt] at e4
      obtain ⟨x, hx⟩ : ∃ x, nm k = x := ⟨_, rfl⟩
      rw [hx] at e1 e3
      clear hx g1 g2
      have b1 : (k : Int) = at_ → cn k < 18446744073709551615 := HB1.out k hlt
      obtain ⟨y, hy⟩ : ∃ y, cn k = y := ⟨_, rfl⟩
      rw [hy] at e2 e4 b0 b1
      clear hy
      obtain ⟨b2, b3⟩ := b0
      by_cases hat : (k : Int) = at_
      · have b4 := b1 hat
        subst hat
        clear b1
        cases fz with
        | false =>
          rw [if_pos ⟨rfl, rfl⟩] at e4
          go_wp2
          go_quiet (fail)
          go_wp2
          go_roundw
          case rel => exact ⟨k + 1, by omega, by go_num, _, by first | rfl | rw [World.drewN_drewN]⟩
          case measure => simp [intOf]; omega
        | true =>
          rw [if_neg (by simp)] at e4
          go_wp2
          go_quiet (fail)
          go_wp2
          go_roundw
          case rel => exact ⟨k + 1, by omega, by go_num, _, by first | rfl | rw [World.drewN_drewN]⟩
          case measure => simp [intOf]; omega
      · rw [if_neg (fun h => hat h.1)] at e4
        clear b1
        go_wp2
        go_quiet (fail)
        go_wp2
        go_roundw
        case rel => exact ⟨k + 1, by omega, by go_num, _, by first | rfl | rw [World.drewN_drewN]⟩
        case measure => simp [intOf]; omega
    · obtain rfl : k = n := by omega
      go_wp2
      go_ret
      exact ⟨rfl, below_drew _ _ _ BEL.out⟩

theorem StrAt.kp {a b : World} {p : Option Addr} {n : Nat} {nm : Nat → ByteArray} (h : StrAt a p n nm) {S : Nat → Prop} (hk : Kp S a b) (hs : ∀ q, p = some q → ¬ S q.block) : StrAt b p n nm := by
  rcases h with h | ⟨q, h1, h2⟩
  · exact .inl h
  · exact .inr ⟨q, h1, fun k hk' => hk.cell (h2 k hk') (show ¬ S q from hs ⟨q, 0, none⟩ h1)⟩
theorem CntAt.kp {a b : World} {p : Option Addr} {n : Nat} {cn : Nat → Int} (h : CntAt a p n cn) {S : Nat → Prop} (hk : Kp S a b) (hs : ∀ q, p = some q → ¬ S q.block) : CntAt b p n cn := by
  rcases h with h | ⟨q, h1, h2⟩
  · exact .inl h
  · exact .inr ⟨q, h1, fun k hk' => hk.cell (h2 k hk') (show ¬ S q from hs ⟨q, 0, none⟩ h1)⟩
theorem kp_below {W w w' : World} (h : Below W.heap.size W w) (hk : Kp (fun _ => False) w w') : Below W.heap.size W w' := h.trans ((hk.below (Nat.le_refl _) (fun _ f => f.elim)).mono h.size)

set_option maxRecDepth 100000 in
set_option maxHeartbeats 4000000 in
theorem q22 (u5 u6 u7 u8 u9 u10 u11 u12 u13 u14 u17 u18 u20 u21 u22 u23 u24 u25 u26 u27 u28 u29 u30 u31 u32 u33 u34 u35 u36 u37 u38 u39 u40 u41 u42 u43 u44 u45 u46 u47 u48 u49 u50 u51 u52 u53 u54 u55 u56 u57 u58 u59 u60 u61 u62 u63 u64 u65 u66 u67 u68 u69 u70 u71 u72 u73 u74 u75 u76 u77 u78 u79 u80 u81 u82 u83 u84 u85 u86 u87 u88 u89 u90 u91 u92 u93 u94 u95 u96 u97 u98 u99 u100 u101 u102 u103 u104 u105 u106 u107 u108 u109 u110 u111 u112 u113 u114 u115 u116 u117 u118 u119 u120 u121 u122 u123 u124 u125 u126 u127 u128 u129 u130 u131 u132 u133 u134 u135 u136 u137 u138 u139 u140 u141 u142 u143 u144 u145 u146 u147 u148 u149 u150 u151 u152 u153 u154 u155 u156 u157 u158 u159 u160 u161 u162 u163 u164 u165 u166 u167 u168 u169 u170 u171 u172 u173 u174 u175 u176 u177 u178 u179 u180 u181 u182 u183 u184 u185 u186 u187 u188 u189 u190 u191 u192 u193 u194 u195 u196 u197 u198 u199 u200 u201 u202 u203 u204 u205 u206 u207 u208 u209 : Value) (a b : Option Addr) (n c1 c2 c3 g B2 : Nat) (t0 t old at_ : Int) (fz : Bool) (name : ByteArray) (nm : Nat → ByteArray) (cn dn : Nat → Int) (W w : World) (hn : n ≤ 65536) (hs : StrAt w a n nm) (hc : CntAt w b n cn) (hB : w.heap[B2]? = some (.cells #[.slice (some ⟨g, 0, none⟩) n c3, .int .u32 t, .bool fz] 31 (0, 0))) (hE : Ent w g n nm dn) (hd : Dn n cn dn at_ fz) (hb0 : ∀ k, k < n → 0 ≤ cn k ∧ cn k ≤ 18446744073709551615) (hb1 : ∀ k, k < n → (k : Int) = at_ → cn k < 18446744073709551615) (bel : Below W.heap.size W w) :
    Code.wp Try.prog (dropS 22 (Try.f3.body.getD .skip)) (bodyPost Try.prog Try.f3 fun e w' => e = .returned (.bool true) ∧ Below W.heap.size W w') ⟨#[.slice a n c1, .slice b n c2, .int .u32 t0, .bool fz, .string name, u5, u6, u7, u8, u9, u10, u11, u12, u13, u14, .int .u64 old, .int .i64 at_, u17, u18, .pointer (some ⟨B2, 0, none⟩), u20, u21, u22, u23, u24, u25, u26, u27, u28, u29, u30, u31, u32, u33, u34, u35, u36, u37, u38, u39, u40, u41, u42, u43, u44, u45, u46, u47, u48, u49, u50, u51, u52, u53, u54, u55, u56, u57, u58, u59, u60, u61, u62, u63, u64, u65, u66, u67, u68, u69, u70, u71, u72, u73, u74, u75, u76, u77, u78, u79, u80, u81, u82, u83, u84, u85, u86, u87, u88, u89, u90, u91, u92, u93, u94, u95, u96, u97, u98, u99, u100, u101, u102, u103, u104, u105, u106, u107, u108, u109, u110, u111, u112, u113, u114, u115, u116, u117, u118, u119, u120, u121, u122, u123, u124, u125, u126, u127, u128, u129, u130, u131, u132, u133, u134, u135, u136, u137, u138, u139, u140, u141, u142, u143, u144, u145, u146, u147, u148, u149, u150, u151, u152, u153, u154, u155, u156, u157, u158, u159, u160, u161, u162, u163, u164, u165, u166, u167, u168, u169, u170, u171, u172, u173, u174, u175, u176, u177, u178, u179, u180, u181, u182, u183, u184, u185, u186, u187, u188, u189, u190, u191, u192, u193, u194, u195, u196, u197, u198, u199, u200, u201, u202, u203, u204, u205, u206, u207, u208, u209], []⟩ w := by
  have c0 : w.cell? ⟨B2, 0, none⟩ = some (.slice (some ⟨g, 0, none⟩) n c3) := (cell_of_row w _ 0 _ _ _ hB).trans rfl
  have c1' : w.cell? ⟨B2, 1, none⟩ = some (.int .u32 t) := (cell_of_row w _ 1 _ _ _ hB).trans rfl
  have c2' : w.cell? ⟨B2, 2, none⟩ = some (.bool fz) := (cell_of_row w _ 2 _ _ _ hB).trans rfl
  have HN := hide (names_any g n c3 nm dn t fz w (by omega) hE)
  have HH := hide (And.intro hs (And.intro hc (And.intro hB (And.intro hE (And.intro hd (And.intro hb0 (And.intro hb1 bel)))))))
  clear hs hc hB hE hd hb0 hb1 bel
  refine wp_seq (x := headS (dropS 22 (Try.f3.body.getD .skip))) (y := (dropS 23 (Try.f3.body.getD .skip))) ?_
  conv => arg 2; whnf
  go_wp2_with (go_at_call 10; refine HN.out.mono ?_)
  rintro e w1 ⟨h1, rfl, z1, r1, k1⟩
  have HY := hide (And.intro z1 (And.intro r1 k1))
  clear HN z1 r1 k1 c0 c1' c2'
  go_wp2
  obtain ⟨hs, hc, hB, hE, hd, hb0, hb1, bel⟩ := HH.out
  obtain ⟨z1, r1, k1⟩ := HY.out
  replace hs := hs.kp k1 (fun _ _ f => f)
  replace hc := hc.kp k1 (fun _ _ f => f)
  replace hB := k1.row hB (fun f => f)
  replace hE := hE.kp k1 (fun f => f)
  replace bel := kp_below bel k1
  clear HH HY z1 k1
  have c0 : w1.cell? ⟨B2, 0, none⟩ = some (.slice (some ⟨g, 0, none⟩) n c3) := (cell_of_row w1 _ 0 _ _ _ hB).trans rfl
  have c1' : w1.cell? ⟨B2, 1, none⟩ = some (.int .u32 t) := (cell_of_row w1 _ 1 _ _ _ hB).trans rfl
  have c2' : w1.cell? ⟨B2, 2, none⟩ = some (.bool fz) := (cell_of_row w1 _ 2 _ _ _ hB).trans rfl
  have HN := hide (counters_any g n c3 nm dn t fz w1 (by omega) hE)
  have HH := hide (And.intro hs (And.intro hc (And.intro r1 (And.intro hd (And.intro hb0 (And.intro hb1 bel))))))
  clear hs hc hB hE hd hb0 hb1 bel r1
  refine wp_seq (x := headS (dropS 23 (Try.f3.body.getD .skip))) (y := (dropS 24 (Try.f3.body.getD .skip))) ?_
  conv => arg 2; whnf
  go_wp2_with (go_at_call 11; refine HN.out.mono ?_)
  rintro e w2 ⟨h2, rfl, z2, r2, k2⟩
  have HY := hide (And.intro z2 (And.intro r2 k2))
  clear HN z2 r2 k2 c0 c1' c2'
  go_wp2
  refine wp_seq (x := headS (dropS 24 (Try.f3.body.getD .skip))) (y := (dropS 25 (Try.f3.body.getD .skip))) ?_
  conv => arg 2; whnf
  go_wp2
  obtain ⟨hs, hc, r1, hd, hb0, hb1, bel⟩ := HH.out
  obtain ⟨z2, r2, k2⟩ := HY.out
  exact q25 _ _ _ _ _ _ _ _ _ _ _ _ _ _ _ _ _ _ _ _ _ _ _ _ _ _ _ _ _ _ _ _ _ _ _ _ _ _ _ _ _ _ _ _ _ _ _ _ _ _ _ _ _ _ _ _ _ _ _ _ _ _ _ _ _ _ _ _ _ _ _ _ _ _ _ _ _ _ _ _ _ _ _ _ _ _ _ _ _ _ _ _ _ _ _ _ _ _ _ _ _ _ _ _ _ _ _ _ _ _ _ _ _ _ _ _ _ _ _ _ _ _ _ _ _ _ _ _ _ _ _ _ _ _ _ _ _ _ _ _ _ _ _ _ _ _ _ _ _ _ _ _ _ _ _ _ _ _ _ _ _ _ _ _ _ _ _ _ _ _ _ _ _ _ _ _ _ _ _ _ _ _ _ _ _ _ _ _ _ _ _ _ _ _ _ _ _ _ _ _ _ a b n c1 c2 h1 h2 t0 old at_ fz name nm cn dn W w2 hn (hs.kp k2 (fun _ _ f => f)) (hc.kp k2 (fun _ _ f => f)) (k2.row r1 (fun f => f)) r2 hd hb0 hb1 (kp_below bel k2)

set_option maxRecDepth 100000 in
set_option maxHeartbeats 4000000 in
theorem q20 (u5 u6 u7 u8 u9 u10 u11 u12 u13 u14 u17 u18 u23 u24 u25 u26 u27 u28 u29 u30 u31 u32 u33 u34 u35 u36 u37 u38 u39 u40 u41 u42 u43 u44 u45 u46 u47 u48 u49 u50 u51 u52 u53 u54 u55 u56 u57 u58 u59 u60 u61 u62 u63 u64 u65 u66 u67 u68 u69 u70 u71 u72 u73 u74 u75 u76 u77 u78 u79 u80 u81 u82 u83 u84 u85 u86 u87 u88 u89 u90 u91 u92 u93 u94 u95 u96 u97 u98 u99 u100 u101 u102 u103 u104 u105 u106 u107 u108 u109 u110 u111 u112 u113 u114 u115 u116 u117 u118 u119 u120 u121 u122 u123 u124 u125 u126 u127 u128 u129 u130 u131 u132 u133 u134 u135 u136 u137 u138 u139 u140 u141 u142 u143 u144 u145 u146 u147 u148 u149 u150 u151 u152 u153 u154 u155 u156 u157 u158 u159 u160 u161 u162 u163 u164 u165 u166 u167 u168 u169 u170 u171 u172 u173 u174 u175 u176 u177 u178 u179 u180 u181 u182 u183 u184 u185 u186 u187 u188 u189 u190 u191 u192 u193 u194 u195 u196 u197 u198 u199 u200 u201 u202 u203 u204 u205 u206 u207 u208 u209 : Value) (a b : Option Addr) (n c1 c2 c3 g B2 m h1 h2 : Nat) (t0 t old at_ : Int) (fz : Bool) (name : ByteArray) (nm nm' : Nat → ByteArray) (cn dn cn' : Nat → Int) (W w : World) (hn : n ≤ 65536) (hm : m ≤ 65537) (ho1 : 0 ≤ old) (ho2 : old < 18446744073709551615)
    (r1 : w.heap[h1]? = some (.cells (rowS nm' m).toArray 9 (0, 0))) (r2 : w.heap[h2]? = some (.cells (rowC cn' m).toArray 28 (0, 0))) (hp1 : ∀ j, j < m → (nm' j).toList = name.toList → cn' j = old + 1) (hp2 : ∃ j, j < m ∧ (nm' j).toList = name.toList)
    (hs : StrAt w a n nm) (hc : CntAt w b n cn) (hB : w.heap[B2]? = some (.cells #[.slice (some ⟨g, 0, none⟩) n c3, .int .u32 t, .bool fz] 31 (0, 0))) (hE : Ent w g n nm dn) (hd : Dn n cn dn at_ fz) (hb0 : ∀ k, k < n → 0 ≤ cn k ∧ cn k ≤ 18446744073709551615) (hb1 : ∀ k, k < n → (k : Int) = at_ → cn k < 18446744073709551615) (bel : Below W.heap.size W w) :
    Code.wp Try.prog (dropS 20 (Try.f3.body.getD .skip)) (bodyPost Try.prog Try.f3 fun e w' => e = .returned (.bool true) ∧ Below W.heap.size W w') ⟨#[.slice a n c1, .slice b n c2, .int .u32 t0, .bool fz, .string name, u5, u6, u7, u8, u9, u10, u11, u12, u13, u14, .int .u64 old, .int .i64 at_, u17, u18, .pointer (some ⟨B2, 0, none⟩), .slice (some ⟨h1, 0, none⟩) m m, .slice (some ⟨h2, 0, none⟩) m m, .bool false, u23, u24, u25, u26, u27, u28, u29, u30, u31, u32, u33, u34, u35, u36, u37, u38, u39, u40, u41, u42, u43, u44, u45, u46, u47, u48, u49, u50, u51, u52, u53, u54, u55, u56, u57, u58, u59, u60, u61, u62, u63, u64, u65, u66, u67, u68, u69, u70, u71, u72, u73, u74, u75, u76, u77, u78, u79, u80, u81, u82, u83, u84, u85, u86, u87, u88, u89, u90, u91, u92, u93, u94, u95, u96, u97, u98, u99, u100, u101, u102, u103, u104, u105, u106, u107, u108, u109, u110, u111, u112, u113, u114, u115, u116, u117, u118, u119, u120, u121, u122, u123, u124, u125, u126, u127, u128, u129, u130, u131, u132, u133, u134, u135, u136, u137, u138, u139, u140, u141, u142, u143, u144, u145, u146, u147, u148, u149, u150, u151, u152, u153, u154, u155, u156, u157, u158, u159, u160, u161, u162, u163, u164, u165, u166, u167, u168, u169, u170, u171, u172, u173, u174, u175, u176, u177, u178, u179, u180, u181, u182, u183, u184, u185, u186, u187, u188, u189, u190, u191, u192, u193, u194, u195, u196, u197, u198, u199, u200, u201, u202, u203, u204, u205, u206, u207, u208, u209], []⟩ w := by
  have H1 := hide (rowS_cell r1)
  have H2 := hide (rowC_cell r2)
  have HP := hide (And.intro hp1 hp2)
  have HH := hide (And.intro hs (And.intro hc (And.intro hB (And.intro hE (And.intro hd (And.intro hb0 (And.intro hb1 bel)))))))
  clear hs hc hB hE hd hb0 hb1 bel r1 r2 hp1 hp2
  refine wp_seq (x := headS (dropS 20 (Try.f3.body.getD .skip))) (y := (dropS 21 (Try.f3.body.getD .skip))) ?_
  conv => arg 2; whnf
  go_wp2
  go_loopw [22, 23] (fun y z wr => ∃ (j : Nat) (f : Bool), j ≤ m ∧ y = .bool f ∧ z = .int .i64 j ∧ (∀ i, i < j → (nm' i).toList = name.toList → f = true) ∧ wr = w) (fun _ z _ => m - (intOf z).toNat)
  case atStart => exact ⟨0, false, by omega, rfl, rfl, fun i hi => absurd hi (by omega), rfl⟩
  case round =>
    obtain ⟨j, f, hj, rfl, rfl, hf, rfl⟩ := hrel
    have HF := hide hf
    clear hf
    by_cases hlt : j < m
    · have hlt' : (j : Int) < (m : Int) := by omega
      have e1 := H1.out j hlt
      have e2 := H2.out j hlt
      have hq := HP.out.1 j hlt
      obtain ⟨x, hx⟩ : ∃ x, nm' j = x := ⟨_, rfl⟩
      rw [hx] at e1 hq
      cases hxn : (x.toList == name.toList) with
      | true =>
        rw [hq (by simpa using hxn)] at e2
        clear hx hq
        go_wp2
        go_roundw
        case rel => exact ⟨j + 1, true, by omega, rfl, by go_num, fun _ _ _ => rfl, by trivial⟩
        case measure => simp [intOf]; omega
      | false =>
        have HX := hide hx
        clear hx hq
        go_wp2
        go_roundw
        case rel =>
          refine ⟨j + 1, f, by omega, rfl, by go_num, fun i hi h => ?_, by trivial⟩
          rcases Nat.lt_or_ge i j with h3 | h3
          · exact HF.out i h3 h
          · obtain rfl : i = j := by omega
            rw [HX.out] at h
            simp [h] at hxn
        case measure => simp [intOf]; omega
    · obtain rfl : j = m := by omega
      obtain ⟨i, hi1, hi2⟩ := HP.out.2
      have hft := HF.out i hi1 hi2
      subst hft
      go_wp2
      refine wp_seq (x := headS (dropS 21 (Try.f3.body.getD .skip))) (y := (dropS 22 (Try.f3.body.getD .skip))) ?_
      conv => arg 2; whnf
      go_wp2
      obtain ⟨hs, hc, hB, hE, hd, hb0, hb1, bel⟩ := HH.out
      exact q22 _ _ _ _ _ _ _ _ _ _ _ _ _ _ _ _ _ _ _ _ _ _ _ _ _ _ _ _ _ _ _ _ _ _ _ _ _ _ _ _ _ _ _ _ _ _ _ _ _ _ _ _ _ _ _ _ _ _ _ _ _ _ _ _ _ _ _ _ _ _ _ _ _ _ _ _ _ _ _ _ _ _ _ _ _ _ _ _ _ _ _ _ _ _ _ _ _ _ _ _ _ _ _ _ _ _ _ _ _ _ _ _ _ _ _ _ _ _ _ _ _ _ _ _ _ _ _ _ _ _ _ _ _ _ _ _ _ _ _ _ _ _ _ _ _ _ _ _ _ _ _ _ _ _ _ _ _ _ _ _ _ _ _ _ _ _ _ _ _ _ _ _ _ _ _ _ _ _ _ _ _ _ _ _ _ _ _ _ _ _ _ _ _ _ _ _ _ _ _ _ _ _ a b n c1 c2 c3 g B2 t0 t old at_ fz name nm cn dn W _ hn hs hc hB hE hd hb0 hb1 bel

set_option maxRecDepth 100000 in
set_option maxHeartbeats 4000000 in
theorem q16 (u5 u6 u7 u8 u9 u10 u11 u12 u13 u14 u17 u20 u21 u22 u23 u24 u25 u26 u27 u28 u29 u30 u31 u32 u33 u34 u35 u36 u37 u38 u39 u40 u41 u42 u43 u44 u45 u46 u47 u48 u49 u50 u51 u52 u53 u54 u55 u56 u57 u58 u59 u60 u61 u62 u63 u64 u65 u66 u67 u68 u69 u70 u71 u72 u73 u74 u75 u76 u77 u78 u79 u80 u81 u82 u83 u84 u85 u86 u87 u88 u89 u90 u91 u92 u93 u94 u95 u96 u97 u98 u99 u100 u101 u102 u103 u104 u105 u106 u107 u108 u109 u110 u111 u112 u113 u114 u115 u116 u117 u118 u119 u120 u121 u122 u123 u124 u125 u126 u127 u128 u129 u130 u131 u132 u133 u134 u135 u136 u137 u138 u139 u140 u141 u142 u143 u144 u145 u146 u147 u148 u149 u150 u151 u152 u153 u154 u155 u156 u157 u158 u159 u160 u161 u162 u163 u164 u165 u166 u167 u168 u169 u170 u171 u172 u173 u174 u175 u176 u177 u178 u179 u180 u181 u182 u183 u184 u185 u186 u187 u188 u189 u190 u191 u192 u193 u194 u195 u196 u197 u198 u199 u200 u201 u202 u203 u204 u205 u206 u207 u208 u209 : Value) (a b : Option Addr) (n c1 c2 c3 g B1 B2 m g' c' : Nat) (t0 t t' old at_ : Int) (fz : Bool) (name : ByteArray) (nm nm' : Nat → ByteArray) (cn dn cn' : Nat → Int) (W w : World) (hn : n ≤ 65536) (hm : m ≤ 65537) (ho1 : 0 ≤ old) (ho2 : old < 18446744073709551615)
    (hB1 : w.heap[B1]? = some (.cells #[.slice (some ⟨g', 0, none⟩) m c', .int .u32 t', .bool false] 31 (0, 0))) (hE1 : Ent w g' m nm' cn') (hp1 : ∀ j, j < m → (nm' j).toList = name.toList → cn' j = old + 1) (hp2 : ∃ j, j < m ∧ (nm' j).toList = name.toList)
    (hs : StrAt w a n nm) (hc : CntAt w b n cn) (hB : w.heap[B2]? = some (.cells #[.slice (some ⟨g, 0, none⟩) n c3, .int .u32 t, .bool fz] 31 (0, 0))) (hE : Ent w g n nm dn) (hd : Dn n cn dn at_ fz) (hb0 : ∀ k, k < n → 0 ≤ cn k ∧ cn k ≤ 18446744073709551615) (hb1 : ∀ k, k < n → (k : Int) = at_ → cn k < 18446744073709551615) (bel : Below W.heap.size W w) :
    Code.wp Try.prog (dropS 16 (Try.f3.body.getD .skip)) (bodyPost Try.prog Try.f3 fun e w' => e = .returned (.bool true) ∧ Below W.heap.size W w') ⟨#[.slice a n c1, .slice b n c2, .int .u32 t0, .bool fz, .string name, u5, u6, u7, u8, u9, u10, u11, u12, u13, u14, .int .u64 old, .int .i64 at_, u17, .pointer (some ⟨B1, 0, none⟩), .pointer (some ⟨B2, 0, none⟩), u20, u21, u22, u23, u24, u25, u26, u27, u28, u29, u30, u31, u32, u33, u34, u35, u36, u37, u38, u39, u40, u41, u42, u43, u44, u45, u46, u47, u48, u49, u50, u51, u52, u53, u54, u55, u56, u57, u58, u59, u60, u61, u62, u63, u64, u65, u66, u67, u68, u69, u70, u71, u72, u73, u74, u75, u76, u77, u78, u79, u80, u81, u82, u83, u84, u85, u86, u87, u88, u89, u90, u91, u92, u93, u94, u95, u96, u97, u98, u99, u100, u101, u102, u103, u104, u105, u106, u107, u108, u109, u110, u111, u112, u113, u114, u115, u116, u117, u118, u119, u120, u121, u122, u123, u124, u125, u126, u127, u128, u129, u130, u131, u132, u133, u134, u135, u136, u137, u138, u139, u140, u141, u142, u143, u144, u145, u146, u147, u148, u149, u150, u151, u152, u153, u154, u155, u156, u157, u158, u159, u160, u161, u162, u163, u164, u165, u166, u167, u168, u169, u170, u171, u172, u173, u174, u175, u176, u177, u178, u179, u180, u181, u182, u183, u184, u185, u186, u187, u188, u189, u190, u191, u192, u193, u194, u195, u196, u197, u198, u199, u200, u201, u202, u203, u204, u205, u206, u207, u208, u209], []⟩ w := by
  have c0 : w.cell? ⟨B1, 0, none⟩ = some (.slice (some ⟨g', 0, none⟩) m c') := (cell_of_row w _ 0 _ _ _ hB1).trans rfl
  have c1' : w.cell? ⟨B1, 1, none⟩ = some (.int .u32 t') := (cell_of_row w _ 1 _ _ _ hB1).trans rfl
  have c2' : w.cell? ⟨B1, 2, none⟩ = some (.bool false) := (cell_of_row w _ 2 _ _ _ hB1).trans rfl
  have HN := hide (names_any g' m c' nm' cn' t' false w (by omega) hE1)
  have HP := hide (And.intro hp1 hp2)
  have HH := hide (And.intro hs (And.intro hc (And.intro hB (And.intro hE (And.intro hd (And.intro hb0 (And.intro hb1 (And.intro bel (And.intro hB1 hE1)))))))))
  clear hs hc hB hE hd hb0 hb1 bel hB1 hE1 hp1 hp2
  refine wp_seq (x := headS (dropS 16 (Try.f3.body.getD .skip))) (y := (dropS 17 (Try.f3.body.getD .skip))) ?_
  conv => arg 2; whnf
  go_wp2_with (go_at_call 10; refine HN.out.mono ?_)
  rintro e w1 ⟨h1, rfl, z1, r1, k1⟩
  have HY := hide (And.intro z1 (And.intro r1 k1))
  clear HN z1 r1 k1 c0 c1' c2'
  go_wp2
  obtain ⟨hs, hc, hB, hE, hd, hb0, hb1, bel, hB1, hE1⟩ := HH.out
  obtain ⟨z1, r1, k1⟩ := HY.out
  replace hs := hs.kp k1 (fun _ _ f => f)
  replace hc := hc.kp k1 (fun _ _ f => f)
  replace hB := k1.row hB (fun f => f)
  replace hE := hE.kp k1 (fun f => f)
  replace hB1 := k1.row hB1 (fun f => f)
  replace hE1 := hE1.kp k1 (fun f => f)
  replace bel := kp_below bel k1
  clear HH HY z1 k1
  have c0 : w1.cell? ⟨B1, 0, none⟩ = some (.slice (some ⟨g', 0, none⟩) m c') := (cell_of_row w1 _ 0 _ _ _ hB1).trans rfl
  have c1' : w1.cell? ⟨B1, 1, none⟩ = some (.int .u32 t') := (cell_of_row w1 _ 1 _ _ _ hB1).trans rfl
  have c2' : w1.cell? ⟨B1, 2, none⟩ = some (.bool false) := (cell_of_row w1 _ 2 _ _ _ hB1).trans rfl
  have HN := hide (counters_any g' m c' nm' cn' t' false w1 (by omega) hE1)
  have HH := hide (And.intro hs (And.intro hc (And.intro hB (And.intro hE (And.intro hd (And.intro hb0 (And.intro hb1 (And.intro bel r1))))))))
  clear hs hc hB hE hd hb0 hb1 bel hB1 hE1 r1
  refine wp_seq (x := headS (dropS 17 (Try.f3.body.getD .skip))) (y := (dropS 18 (Try.f3.body.getD .skip))) ?_
  conv => arg 2; whnf
  go_wp2_with (go_at_call 11; refine HN.out.mono ?_)
  rintro e w2 ⟨h2, rfl, z2, r2, k2⟩
  have HY := hide (And.intro z2 (And.intro r2 k2))
  clear HN z2 r2 k2 c0 c1' c2'
  go_wp2
  refine wp_seq (x := headS (dropS 18 (Try.f3.body.getD .skip))) (y := (dropS 19 (Try.f3.body.getD .skip))) ?_
  conv => arg 2; whnf
  go_wp2
  refine wp_seq (x := headS (dropS 19 (Try.f3.body.getD .skip))) (y := (dropS 20 (Try.f3.body.getD .skip))) ?_
  conv => arg 2; whnf
  go_wp2
  obtain ⟨hs, hc, hB, hE, hd, hb0, hb1, bel, r1⟩ := HH.out
  obtain ⟨z2, r2, k2⟩ := HY.out
  exact q20 _ _ _ _ _ _ _ _ _ _ _ _ _ _ _ _ _ _ _ _ _ _ _ _ _ _ _ _ _ _ _ _ _ _ _ _ _ _ _ _ _ _ _ _ _ _ _ _ _ _ _ _ _ _ _ _ _ _ _ _ _ _ _ _ _ _ _ _ _ _ _ _ _ _ _ _ _ _ _ _ _ _ _ _ _ _ _ _ _ _ _ _ _ _ _ _ _ _ _ _ _ _ _ _ _ _ _ _ _ _ _ _ _ _ _ _ _ _ _ _ _ _ _ _ _ _ _ _ _ _ _ _ _ _ _ _ _ _ _ _ _ _ _ _ _ _ _ _ _ _ _ _ _ _ _ _ _ _ _ _ _ _ _ _ _ _ _ _ _ _ _ _ _ _ _ _ _ _ _ _ _ _ _ _ _ _ _ _ _ _ _ _ _ _ _ _ _ _ _ a b n c1 c2 c3 g B2 m h1 h2 t0 t old at_ fz name nm nm' cn dn cn' W w2 hn hm ho1 ho2 (k2.row r1 (fun f => f)) r2 HP.out.1 HP.out.2 (hs.kp k2 (fun _ _ f => f)) (hc.kp k2 (fun _ _ f => f)) (k2.row hB (fun f => f)) (hE.kp k2 (fun f => f)) hd hb0 hb1 (kp_below bel k2)

end Go.Proofs.Qxb6616830a
