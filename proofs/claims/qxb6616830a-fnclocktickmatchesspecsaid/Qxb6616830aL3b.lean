/-
  The law of CopySharing: the clock is made, copied, ticked.
-/
import Derived.Test.Qxb6616830aL3a
namespace Go.Proofs.Qxb6616830a
open Go.RowKit
set_option linter.unusedVariables false

/-- Where the name stands: nowhere; or at the one place. -/
def Loc (n : Nat) (nm : Nat → ByteArray) (cn : Nat → Int) (name : ByteArray) (old at_ : Int) : Prop :=
  (at_ = -1 ∧ old = 0 ∧ ∀ k, k < n → ¬ (nm k).toList = name.toList) ∨ ∃ k : Nat, k < n ∧ at_ = k ∧ old = cn k ∧ (nm k).toList = name.toList
theorem Asc.one {n : Nat} {nm : Nat → ByteArray} (h : Asc n nm) {i j : Nat} (hi : i < n) (hj : j < n) (e : (nm i).toList = (nm j).toList) : i = j := by
  rcases Nat.lt_trichotomy i j with a | a | a
  · have := h.lt a hj
    unfold lessB at this
    rw [e, less_irr] at this
    cases this
  · exact a
  · have := h.lt a hi
    unfold lessB at this
    rw [e, less_irr] at this
    cases this
theorem less_ne {a b : ByteArray} (h : lessB a b = true) : ¬ a.toList = b.toList := by
  intro e
  unfold lessB at h
  rw [e, less_irr] at h
  cases h
theorem Found.no {n i : Nat} {nm : Nat → ByteArray} {name : ByteArray} (h : Found n nm name i false) : ∀ k, k < n → ¬ (nm k).toList = name.toList := by
  rcases h with h | ⟨_, _, h1, h2⟩
  · cases h.1
  · intro k hk
    rcases Nat.lt_or_ge k i with a | a
    · exact less_ne (h1 k a)
    · exact fun e => less_ne (h2 k a hk) e.symm
theorem Loc.found {n i : Nat} {nm : Nat → ByteArray} {cn : Nat → Int} {name : ByteArray} {old at_ : Int} (h : Loc n nm cn name old at_) (hA : Asc n nm) (hf : Found n nm name i true) : i < n ∧ at_ = i ∧ old = cn i ∧ (nm i).toList = name.toList := by
  rcases hf with hf | hf
  · rcases h with ⟨_, _, h⟩ | ⟨k, h1, h2, h3, h4⟩
    · exact absurd hf.2.2 (h i hf.2.1)
    · obtain rfl : k = i := hA.one h1 hf.2.1 (h4.trans hf.2.2.symm)
      exact ⟨h1, h2, h3, h4⟩
  · cases hf.1
theorem Loc.none {n i : Nat} {nm : Nat → ByteArray} {cn : Nat → Int} {name : ByteArray} {old at_ : Int} (h : Loc n nm cn name old at_) (hf : Found n nm name i false) : i ≤ n ∧ at_ = -1 ∧ old = 0 := by
  have hno := hf.no
  rcases hf with hf | hf
  · cases hf.1
  · rcases h with ⟨h1, h2, _⟩ | ⟨k, h1, h2, h3, h4⟩
    · exact ⟨hf.2.1, h1, h2⟩
    · exact absurd h4 (hno k h1)

set_option maxRecDepth 100000 in
set_option maxHeartbeats 4000000 in
theorem q13 (u5 u6 u7 u8 u9 u10 u11 u12 u13 u14 u17 u18 u19 u20 u21 u22 u23 u24 u25 u26 u27 u28 u29 u30 u31 u32 u33 u34 u35 u36 u37 u38 u39 u40 u41 u42 u43 u44 u45 u46 u47 u48 u49 u50 u51 u52 u53 u54 u55 u56 u57 u58 u59 u60 u61 u62 u63 u64 u65 u66 u67 u68 u69 u70 u71 u72 u73 u74 u75 u76 u77 u78 u79 u80 u81 u82 u83 u84 u85 u86 u87 u88 u89 u90 u91 u92 u93 u94 u95 u96 u97 u98 u99 u100 u101 u102 u103 u104 u105 u106 u107 u108 u109 u110 u111 u112 u113 u114 u115 u116 u117 u118 u119 u120 u121 u122 u123 u124 u125 u126 u127 u128 u129 u130 u131 u132 u133 u134 u135 u136 u137 u138 u139 u140 u141 u142 u143 u144 u145 u146 u147 u148 u149 u150 u151 u152 u153 u154 u155 u156 u157 u158 u159 u160 u161 u162 u163 u164 u165 u166 u167 u168 u169 u170 u171 u172 u173 u174 u175 u176 u177 u178 u179 u180 u181 u182 u183 u184 u185 u186 u187 u188 u189 u190 u191 u192 u193 u194 u195 u196 u197 u198 u199 u200 u201 u202 u203 u204 u205 u206 u207 u208 u209 : Value) (a b : Option Addr) (n c1 c2 t : Nat) (old at_ : Int) (fz : Bool) (name : ByteArray) (nm : Nat → ByteArray) (cn : Nat → Int) (W w : World) (hn : n ≤ 65536) (ht : t ≤ 4294967295) (hs : StrAt w a n nm) (hc : CntAt w b n cn) (hsb : ∀ q, a = some q → q.block < w.heap.size) (hcb : ∀ q, b = some q → q.block < w.heap.size) (hA : Asc n nm) (hb0 : ∀ k, k < n → 0 ≤ cn k ∧ cn k ≤ 18446744073709551615) (hL : Loc n nm cn name old at_) (hmax : ¬ old = 18446744073709551615) (bel : Below W.heap.size W w) :
    Code.wp Try.prog (dropS 13 (Try.f3.body.getD .skip)) (bodyPost Try.prog Try.f3 fun e w' => e = .returned (.bool true) ∧ Below W.heap.size W w') ⟨#[.slice a n c1, .slice b n c2, .int .u32 t, .bool fz, .string name, u5, u6, u7, u8, u9, u10, u11, u12, u13, u14, .int .u64 old, .int .i64 at_, u17, u18, u19, u20, u21, u22, u23, u24, u25, u26, u27, u28, u29, u30, u31, u32, u33, u34, u35, u36, u37, u38, u39, u40, u41, u42, u43, u44, u45, u46, u47, u48, u49, u50, u51, u52, u53, u54, u55, u56, u57, u58, u59, u60, u61, u62, u63, u64, u65, u66, u67, u68, u69, u70, u71, u72, u73, u74, u75, u76, u77, u78, u79, u80, u81, u82, u83, u84, u85, u86, u87, u88, u89, u90, u91, u92, u93, u94, u95, u96, u97, u98, u99, u100, u101, u102, u103, u104, u105, u106, u107, u108, u109, u110, u111, u112, u113, u114, u115, u116, u117, u118, u119, u120, u121, u122, u123, u124, u125, u126, u127, u128, u129, u130, u131, u132, u133, u134, u135, u136, u137, u138, u139, u140, u141, u142, u143, u144, u145, u146, u147, u148, u149, u150, u151, u152, u153, u154, u155, u156, u157, u158, u159, u160, u161, u162, u163, u164, u165, u166, u167, u168, u169, u170, u171, u172, u173, u174, u175, u176, u177, u178, u179, u180, u181, u182, u183, u184, u185, u186, u187, u188, u189, u190, u191, u192, u193, u194, u195, u196, u197, u198, u199, u200, u201, u202, u203, u204, u205, u206, u207, u208, u209], []⟩ w := by
  have HN := hide (new_any a b n c1 c2 nm cn t fz w (by omega) hs hc)
  have HH := hide (And.intro hs (And.intro hc (And.intro hsb (And.intro hcb (And.intro hA (And.intro hb0 (And.intro hL (And.intro hmax bel))))))))
  clear hs hc bel hsb hcb hA hb0 hL hmax
  refine wp_seq (x := headS (dropS 13 (Try.f3.body.getD .skip))) (y := (dropS 14 (Try.f3.body.getD .skip))) ?_
  conv => arg 2; whnf
  go_wp2_with (go_at_call 8; refine HN.out.mono ?_)
  rintro e w1 ⟨g, rfl, hg, hE, hk⟩
  have HY := hide (And.intro hg (And.intro hE hk))
  clear HN hg hE hk
  go_wp2
  refine wp_seq (x := headS (dropS 14 (Try.f3.body.getD .skip))) (y := (dropS 15 (Try.f3.body.getD .skip))) ?_
  conv => arg 2; whnf
  go_wp2
  obtain ⟨hs, hc, hsb, hcb, hA, hb0, hL, hmax, bel⟩ := HH.out
  obtain ⟨hg, hE, hk⟩ := HY.out
  obtain ⟨w2, hw2⟩ : ∃ x, (w1.alloc (.cells #[.slice (some ⟨g, 0, none⟩) n n, .int .u32 t, .bool fz] 31)).alloc (.cells #[.slice (some ⟨g, 0, none⟩) n n, .int .u32 t, .bool fz] 31) = x := ⟨_, rfl⟩
  have k2 : Kp (fun _ => False) w1 w2 := by rw [← hw2]; exact ((Kp.refl _ w1).alloc _).alloc _
  have b1 : w2.heap[w1.heap.size]? = some (.cells #[.slice (some ⟨g, 0, none⟩) n n, .int .u32 t, .bool fz] 31 (0, 0)) := by rw [← hw2]; exact heap_alloc2_old w1 _ _
  have b2 : w2.heap[w1.heap.size + 1]? = some (.cells #[.slice (some ⟨g, 0, none⟩) n n, .int .u32 t, .bool fz] 31 (0, 0)) := by rw [← hw2]; exact heap_alloc2_new w1 _ _
  have lg := hE.lt
  have gB : g ≠ w1.heap.size := by omega
  have hbm : ∀ k, k < n → (nm k).toList = name.toList → cn k < 18446744073709551615 := by
    intro k hk' e
    rcases hL with ⟨_, _, h⟩ | ⟨j, h1, h2, h3, h4⟩
    · exact absurd e (h k hk')
    · obtain rfl : j = k := hA.one h1 hk' (h4.trans e.symm)
      have := hb0 j hk'
      omega
  have HT := hide (zztick_any w1.heap.size g n n t nm cn fz name w2 hn (Nat.le_refl _) (by omega) ht hA (hE.kp k2 (fun f => f)) b1 gB (fun k hk' => (hb0 k hk').1) hbm)
  have kw : Kp (fun _ => False) w w2 := hk.trans k2 (fun _ _ f => f)
  have HZ := hide (And.intro (hE.kp k2 (fun f => f)) (And.intro b2 (And.intro k2 (And.intro kw (And.intro gB hg)))))
  rw [hw2]
  clear hs hc hsb hcb hA hb0 hL hmax bel hg hE hk k2 b1 b2 gB hbm kw HY hw2
  refine wp_seq (x := headS (dropS 15 (Try.f3.body.getD .skip))) (y := (dropS 16 (Try.f3.body.getD .skip))) ?_
  conv => arg 2; whnf
  go_wp2_with (go_at_call 9; refine HT.out.mono ?_)
  rintro e w3 ⟨rfl, i, f, hF, hyes, hno, k3⟩
  have HU := hide (And.intro hF (And.intro hyes (And.intro hno k3)))
  clear HT hF hyes hno k3
  go_wp2
  obtain ⟨hs, hc, hsb, hcb, hA, hb0, hL, hmax, bel⟩ := HH.out
  obtain ⟨hE, b2, k2, kw, gB, hg⟩ := HZ.out
  obtain ⟨hF, hyes, hno, k3⟩ := HU.out
  have s2 : w1.heap.size < w2.heap.size := by have := lt_of_block b2; omega
  have sw : w.heap.size ≤ w1.heap.size := by omega
  have hs2 := hs.kp kw (fun _ _ f => f)
  have hc2 := hc.kp kw (fun _ _ f => f)
  have hSo : ∀ q : Nat, q < w.heap.size → ¬ (q = w1.heap.size ∨ (f = true ∧ fz = false ∧ q = g)) := by
    intro q hq h
    rcases h with h | h
    · omega
    · omega
  have hs3 := hs2.kp k3 (fun q hq => hSo _ (hsb q hq))
  have hc3 := hc2.kp k3 (fun q hq => hSo _ (hcb q hq))
  have b3 := k3.row b2 (fun h => by
    rcases h with h | h
    · omega
    · have := hE.lt; omega)
  have bel3 : Below W.heap.size W w3 := by
    refine (kp_below bel kw).trans (k3.below (Nat.le_trans bel.size kw.size) (fun j h => ?_))
    have := bel.size
    rcases h with h | h
    · omega
    · omega
  cases f with
  | true =>
    obtain ⟨hi, ha, ho, he⟩ := hL.found hA hF
    obtain ⟨g', c', hb, hE', hor⟩ := hyes rfl
    have hbi := hb0 i hi
    have ho1 : 0 ≤ old := by omega
    have ho2 : old < 18446744073709551615 := by omega
    have hp1 : ∀ j, j < n → (nm j).toList = name.toList → bump cn i j = old + 1 := by
      intro j hj e
      obtain rfl : j = i := hA.one hj hi (e.trans he.symm)
      simp [bump, ho]
    have hp2 : ∃ j, j < n ∧ (nm j).toList = name.toList := ⟨i, hi, he⟩
    have hb1 : ∀ k, k < n → (k : Int) = at_ → cn k < 18446744073709551615 := by
      intro k hk' e
      obtain rfl : k = i := by omega
      omega
    rcases hor with ⟨hz, hgg⟩ | ⟨hz, hgg⟩
    · subst hz hgg
      have hD := hE'
      have hDn : Dn n cn (bump cn i) at_ false := by
        intro k hk'
        by_cases e : k = i
        · subst e; rw [if_pos ⟨ha.symm, rfl⟩]; simp [bump]
        · rw [if_neg (fun h => e (by omega))]; simp [bump, e]
      exact q16 _ _ _ _ _ _ _ _ _ _ _ _ _ _ _ _ _ _ _ _ _ _ _ _ _ _ _ _ _ _ _ _ _ _ _ _ _ _ _ _ _ _ _ _ _ _ _ _ _ _ _ _ _ _ _ _ _ _ _ _ _ _ _ _ _ _ _ _ _ _ _ _ _ _ _ _ _ _ _ _ _ _ _ _ _ _ _ _ _ _ _ _ _ _ _ _ _ _ _ _ _ _ _ _ _ _ _ _ _ _ _ _ _ _ _ _ _ _ _ _ _ _ _ _ _ _ _ _ _ _ _ _ _ _ _ _ _ _ _ _ _ _ _ _ _ _ _ _ _ _ _ _ _ _ _ _ _ _ _ _ _ _ _ _ _ _ _ _ _ _ _ _ _ _ _ _ _ _ _ _ _ _ _ _ _ _ _ _ _ _ _ _ _ _ _ _ _ _ _ _ _ a b n c1 c2 n g' w1.heap.size (w1.heap.size + 1) n g' c' t t i old at_ false name nm nm cn (bump cn i) (bump cn i) W w3 hn (by omega) ho1 ho2 hb hE' hp1 hp2 hs3 hc3 b3 hD hDn hb0 hb1 bel3
    · subst hz
      have hD : Ent w3 g n nm cn := hE.kp k3 (fun h => by
        rcases h with h | h
        · exact gB h
        · cases h.2.1)
      have hDn : Dn n cn cn at_ true := by
        intro k hk'
        rw [if_neg (by simp)]
      exact q16 _ _ _ _ _ _ _ _ _ _ _ _ _ _ _ _ _ _ _ _ _ _ _ _ _ _ _ _ _ _ _ _ _ _ _ _ _ _ _ _ _ _ _ _ _ _ _ _ _ _ _ _ _ _ _ _ _ _ _ _ _ _ _ _ _ _ _ _ _ _ _ _ _ _ _ _ _ _ _ _ _ _ _ _ _ _ _ _ _ _ _ _ _ _ _ _ _ _ _ _ _ _ _ _ _ _ _ _ _ _ _ _ _ _ _ _ _ _ _ _ _ _ _ _ _ _ _ _ _ _ _ _ _ _ _ _ _ _ _ _ _ _ _ _ _ _ _ _ _ _ _ _ _ _ _ _ _ _ _ _ _ _ _ _ _ _ _ _ _ _ _ _ _ _ _ _ _ _ _ _ _ _ _ _ _ _ _ _ _ _ _ _ _ _ _ _ _ _ _ _ _ a b n c1 c2 n g w1.heap.size (w1.heap.size + 1) n g' c' t t i old at_ true name nm nm cn cn (bump cn i) W w3 hn (by omega) ho1 ho2 hb hE' hp1 hp2 hs3 hc3 b3 hD hDn hb0 hb1 bel3
  | false =>
    obtain ⟨hi, ha, ho⟩ := hL.none hF
    have hnk := hF.no
    obtain ⟨g', hb, hE', hgg⟩ := hno rfl
    have ho1 : 0 ≤ old := by omega
    have ho2 : old < 18446744073709551615 := by omega
    have hp1 : ∀ j, j < n + 1 → (ins nm i name j).toList = name.toList → ins cn i 1 j = old + 1 := by
      intro j hj e
      rcases Nat.lt_trichotomy j i with x | x | x
      · rw [show ins nm i name j = nm j from by simp [ins, x]] at e
        exact absurd e (hnk j (by omega))
      · subst x; simp [ins, ho]
      · rw [show ins nm i name j = nm (j - 1) from by simp [ins, show ¬ j < i by omega, show ¬ j = i by omega]] at e
        exact absurd e (hnk (j - 1) (by omega))
    have hp2 : ∃ j, j < n + 1 ∧ (ins nm i name j).toList = name.toList := ⟨i, by omega, by simp [ins]⟩
    have hb1 : ∀ k, k < n → (k : Int) = at_ → cn k < 18446744073709551615 := by
      intro k hk' e
      omega
    have hD : Ent w3 g n nm cn := hE.kp k3 (fun h => by
      rcases h with h | h
      · exact gB h
      · cases h.1)
    have hDn : Dn n cn cn at_ fz := by
      intro k hk'
      rw [if_neg (fun h => by omega)]
    exact q16 _ _ _ _ _ _ _ _ _ _ _ _ _ _ _ _ _ _ _ _ _ _ _ _ _ _ _ _ _ _ _ _ _ _ _ _ _ _ _ _ _ _ _ _ _ _ _ _ _ _ _ _ _ _ _ _ _ _ _ _ _ _ _ _ _ _ _ _ _ _ _ _ _ _ _ _ _ _ _ _ _ _ _ _ _ _ _ _ _ _ _ _ _ _ _ _ _ _ _ _ _ _ _ _ _ _ _ _ _ _ _ _ _ _ _ _ _ _ _ _ _ _ _ _ _ _ _ _ _ _ _ _ _ _ _ _ _ _ _ _ _ _ _ _ _ _ _ _ _ _ _ _ _ _ _ _ _ _ _ _ _ _ _ _ _ _ _ _ _ _ _ _ _ _ _ _ _ _ _ _ _ _ _ _ _ _ _ _ _ _ _ _ _ _ _ _ _ _ _ _ _ a b n c1 c2 n g w1.heap.size (w1.heap.size + 1) (n + 1) g' (n + 1) t t i old at_ fz name nm (ins nm i name) cn cn (ins cn i 1) W w3 hn (by omega) ho1 ho2 hb hE' hp1 hp2 hs3 hc3 b3 hD hDn hb0 hb1 bel3

set_option maxRecDepth 100000 in
set_option maxHeartbeats 4000000 in
theorem q12 (u5 u6 u7 u8 u9 u10 u11 u12 u13 u14 u17 u18 u19 u20 u21 u22 u23 u24 u25 u26 u27 u28 u29 u30 u31 u32 u33 u34 u35 u36 u37 u38 u39 u40 u41 u42 u43 u44 u45 u46 u47 u48 u49 u50 u51 u52 u53 u54 u55 u56 u57 u58 u59 u60 u61 u62 u63 u64 u65 u66 u67 u68 u69 u70 u71 u72 u73 u74 u75 u76 u77 u78 u79 u80 u81 u82 u83 u84 u85 u86 u87 u88 u89 u90 u91 u92 u93 u94 u95 u96 u97 u98 u99 u100 u101 u102 u103 u104 u105 u106 u107 u108 u109 u110 u111 u112 u113 u114 u115 u116 u117 u118 u119 u120 u121 u122 u123 u124 u125 u126 u127 u128 u129 u130 u131 u132 u133 u134 u135 u136 u137 u138 u139 u140 u141 u142 u143 u144 u145 u146 u147 u148 u149 u150 u151 u152 u153 u154 u155 u156 u157 u158 u159 u160 u161 u162 u163 u164 u165 u166 u167 u168 u169 u170 u171 u172 u173 u174 u175 u176 u177 u178 u179 u180 u181 u182 u183 u184 u185 u186 u187 u188 u189 u190 u191 u192 u193 u194 u195 u196 u197 u198 u199 u200 u201 u202 u203 u204 u205 u206 u207 u208 u209 : Value) (a b : Option Addr) (n c1 c2 t : Nat) (old at_ : Int) (fz : Bool) (name : ByteArray) (nm : Nat → ByteArray) (cn : Nat → Int) (W w : World) (hn : n ≤ 65536) (ht : t ≤ 4294967295) (hs : StrAt w a n nm) (hc : CntAt w b n cn) (hsb : ∀ q, a = some q → q.block < w.heap.size) (hcb : ∀ q, b = some q → q.block < w.heap.size) (hA : Asc n nm) (hb0 : ∀ k, k < n → 0 ≤ cn k ∧ cn k ≤ 18446744073709551615) (hL : Loc n nm cn name old at_) (ho : 0 ≤ old ∧ old ≤ 18446744073709551615) (bel : Below W.heap.size W w) :
    Code.wp Try.prog (dropS 12 (Try.f3.body.getD .skip)) (bodyPost Try.prog Try.f3 fun e w' => e = .returned (.bool true) ∧ Below W.heap.size W w') ⟨#[.slice a n c1, .slice b n c2, .int .u32 t, .bool fz, .string name, u5, u6, u7, u8, u9, u10, u11, u12, u13, u14, .int .u64 old, .int .i64 at_, u17, u18, u19, u20, u21, u22, u23, u24, u25, u26, u27, u28, u29, u30, u31, u32, u33, u34, u35, u36, u37, u38, u39, u40, u41, u42, u43, u44, u45, u46, u47, u48, u49, u50, u51, u52, u53, u54, u55, u56, u57, u58, u59, u60, u61, u62, u63, u64, u65, u66, u67, u68, u69, u70, u71, u72, u73, u74, u75, u76, u77, u78, u79, u80, u81, u82, u83, u84, u85, u86, u87, u88, u89, u90, u91, u92, u93, u94, u95, u96, u97, u98, u99, u100, u101, u102, u103, u104, u105, u106, u107, u108, u109, u110, u111, u112, u113, u114, u115, u116, u117, u118, u119, u120, u121, u122, u123, u124, u125, u126, u127, u128, u129, u130, u131, u132, u133, u134, u135, u136, u137, u138, u139, u140, u141, u142, u143, u144, u145, u146, u147, u148, u149, u150, u151, u152, u153, u154, u155, u156, u157, u158, u159, u160, u161, u162, u163, u164, u165, u166, u167, u168, u169, u170, u171, u172, u173, u174, u175, u176, u177, u178, u179, u180, u181, u182, u183, u184, u185, u186, u187, u188, u189, u190, u191, u192, u193, u194, u195, u196, u197, u198, u199, u200, u201, u202, u203, u204, u205, u206, u207, u208, u209], []⟩ w := by
  have HH := hide (And.intro hs (And.intro hc (And.intro hsb (And.intro hcb (And.intro hA (And.intro hb0 (And.intro hL bel)))))))
  clear hs hc bel hsb hcb hA hb0 hL
  refine wp_seq (x := headS (dropS 12 (Try.f3.body.getD .skip))) (y := (dropS 13 (Try.f3.body.getD .skip))) ?_
  conv => arg 2; whnf
  by_cases hmax : old = 18446744073709551615
  · subst hmax
    go_wp2
    go_ret
    exact ⟨rfl, HH.out.2.2.2.2.2.2.2⟩
  · go_wp2
    obtain ⟨hs, hc, hsb, hcb, hA, hb0, hL, bel⟩ := HH.out
    exact q13 _ _ _ _ _ _ _ _ _ _ _ _ _ _ _ _ _ _ _ _ _ _ _ _ _ _ _ _ _ _ _ _ _ _ _ _ _ _ _ _ _ _ _ _ _ _ _ _ _ _ _ _ _ _ _ _ _ _ _ _ _ _ _ _ _ _ _ _ _ _ _ _ _ _ _ _ _ _ _ _ _ _ _ _ _ _ _ _ _ _ _ _ _ _ _ _ _ _ _ _ _ _ _ _ _ _ _ _ _ _ _ _ _ _ _ _ _ _ _ _ _ _ _ _ _ _ _ _ _ _ _ _ _ _ _ _ _ _ _ _ _ _ _ _ _ _ _ _ _ _ _ _ _ _ _ _ _ _ _ _ _ _ _ _ _ _ _ _ _ _ _ _ _ _ _ _ _ _ _ _ _ _ _ _ _ _ _ _ _ _ _ _ _ _ _ _ _ _ _ _ _ _ _ a b n c1 c2 t old at_ fz name nm cn W w hn ht hs hc hsb hcb hA hb0 hL hmax bel

end Go.Proofs.Qxb6616830a
