/-
  The law of CopySharing: the copies of names and counters.
-/
import Derived.Test.Qxb6616830aL3e
namespace Go.Proofs.Qxb6616830a
open Go.RowKit
set_option linter.unusedVariables false

/-- A slice that came in, its elements one cell each. -/
def InRow (w : World) (a : Option Addr) (n c : Nat) (f : Nat → Value) : Prop :=
  (a = none ∧ n = 0 ∧ c = 0) ∨ ∃ x, a = some x ∧ n ≤ c ∧ c ≤ maxLen ∧ ∀ k, k < n → w.cell? (x.add k) = some (f k)
theorem InRow.kp {w w' : World} {a : Option Addr} {n c : Nat} {f : Nat → Value} (h : InRow w a n c f) (hk : Kp (fun _ => False) w w') : InRow w' a n c f := by
  rcases h with h | ⟨x, h1, h2, h3, h4⟩
  · exact .inl h
  · exact .inr ⟨x, h1, h2, h3, fun k hk' => hk.cell (h4 k hk') (fun f => f)⟩
theorem InRow.le {w : World} {a : Option Addr} {n c : Nat} {f : Nat → Value} (h : InRow w a n c f) : n ≤ 9223372036854775807 := by
  rcases h with ⟨_, h, _⟩ | ⟨x, _, h1, h2, _⟩
  · omega
  · unfold maxLen at h2; omega

/-- make(T, n) and copy(that, src): a new row that holds the source's elements. -/
theorem make_copy (T e : TypeId) (hT : Try.prog.underlying T = some (.slice e)) (hi : ∃ i z, Try.prog.info? e = some i ∧ i.zero = some z ∧ z.cells.size = 1 ∧ i.size = 1 ∧ i.bytes ≤ 16) (n c : Nat) (hn : n ≤ 1048576) (x : Addr) (f : Nat → Value) (h1 : ∀ k, k < n → (f k).oneCell' = true) (w : World)
    (hc : ∀ k, k < n → w.cell? (x.add k) = some (f k)) :
    ∃ (W1 W2 : World), (Instr.makeSlice T (.int .i64 n) (.int .i64 n)).run Try.prog w = .ok (.slice (some ⟨w.heap.size, 0, none⟩) n n) W1 ∧
      (∀ ty, (Builtin.copy_ #[T, T] ty #[.slice (some ⟨w.heap.size, 0, none⟩) n n, .slice (some x) n c]).run Try.prog W1 = .ok (.int .i64 n) W2) ∧
      W2.heap[w.heap.size]? = some (.cells ((List.range n).map f).toArray e (0, 0)) ∧ Kp (fun _ => False) w W2 := by
  obtain ⟨i, z, hi, hz0, hzs, hs, hb⟩ := hi
  have hl : ((List.range n).map f).length = n := by simp
  have hk : Kp (fun _ => False) w (w.alloc (.cells (madeCells z.cells n) e)) := (Kp.refl _ w).alloc _
  refine ⟨w.alloc (.cells (madeCells z.cells n) e), (w.alloc (.cells (madeCells z.cells n) e)).setRow w.heap.size ((List.range n).map f).toArray, ?_, fun ty => ?_, setRow_heap _ _ _ _ _ _ (heap_alloc_new w _), hk.setRow (fun h => absurd h (by omega)) _⟩
  · have h := run_make (P := Try.prog) w T e i z hT hi hz0 .i64 .i64 n n (by omega) (by omega) (by have : (i.bytes : Int) * (n : Int) ≤ 16 * 1048576 := Int.mul_le_mul (by omega) (by omega) (by omega) (by omega); omega) (by omega)
    rw [h, hs]
    simp
  · have h := run_copy_row (P := Try.prog) (w.alloc (.cells (madeCells z.cells n) e)) T T ty e w.heap.size 0 n n x n c (madeCells z.cells n) e ((List.range n).map f) hT (by rw [hi]; simp [hs]) (heap_alloc_new w _) (by rw [hl]; exact (Nat.min_self n).symm) (fun j v hv => by
      simp only [List.getElem?_map] at hv
      by_cases hj : j < n
      · rw [List.getElem?_range hj] at hv
        simp at hv
        subst hv
        exact hk.cell (hc j hj) (fun f => f)
      · rw [List.getElem?_eq_none (by simp; omega)] at hv
        cases hv) (by simp [size_madeCells]) (fun v hv => by
      simp only [List.mem_map, List.mem_range] at hv
      obtain ⟨k, hk', rfl⟩ := hv
      exact h1 k hk')
    rw [h, hl]
    simp only [goInt, List.take_zero, List.nil_append, Nat.zero_add]
    rw [List.drop_of_length_le (by simp [size_madeCells]), List.append_nil]

theorem infoN9 : ∃ i z, Try.prog.info? 9 = some i ∧ i.zero = some z ∧ z.cells.size = 1 ∧ i.size = 1 ∧ i.bytes ≤ 16 := by
  obtain ⟨ti, hi0, hti⟩ := Option.map_eq_some_iff.1 info9
  simp only [Prod.mk.injEq] at hti
  exact ⟨ti, _, hi0, hti.1, rfl, hti.2.1, by omega⟩
theorem infoN28 : ∃ i z, Try.prog.info? 28 = some i ∧ i.zero = some z ∧ z.cells.size = 1 ∧ i.size = 1 ∧ i.bytes ≤ 16 := by
  obtain ⟨ti, hi0, hti⟩ := Option.map_eq_some_iff.1 info28
  simp only [Prod.mk.injEq] at hti
  exact ⟨ti, _, hi0, hti.1, rfl, hti.2.1, by omega⟩

set_option maxRecDepth 100000 in
set_option maxHeartbeats 4000000 in
theorem q4 (u5 u6 u7 u8 u9 u10 u11 u12 u13 u14 u15 u16 u17 u18 u19 u20 u21 u22 u23 u24 u25 u26 u27 u28 u29 u30 u31 u32 u33 u34 u35 u36 u37 u38 u39 u40 u41 u42 u43 u44 u45 u46 u47 u48 u49 u50 u51 u52 u53 u54 u55 u56 u57 u58 u59 u60 u61 u62 u63 u64 u65 u66 u67 u68 u69 u70 u71 u72 u73 u74 u75 u76 u77 u78 u79 u80 u81 u82 u83 u84 u85 u86 u87 u88 u89 u90 u91 u92 u93 u94 u95 u96 u97 u98 u99 u100 u101 u102 u103 u104 u105 u106 u107 u108 u109 u110 u111 u112 u113 u114 u115 u116 u117 u118 u119 u120 u121 u122 u123 u124 u125 u126 u127 u128 u129 u130 u131 u132 u133 u134 u135 u136 u137 u138 u139 u140 u141 u142 u143 u144 u145 u146 u147 u148 u149 u150 u151 u152 u153 u154 u155 u156 u157 u158 u159 u160 u161 u162 u163 u164 u165 u166 u167 u168 u169 u170 u171 u172 u173 u174 u175 u176 u177 u178 u179 u180 u181 u182 u183 u184 u185 u186 u187 u188 u189 u190 u191 u192 u193 u194 u195 u196 u197 u198 u199 u200 u201 u202 u203 u204 u205 u206 u207 u208 u209 : Value) (a b : Option Addr) (n m c1 c2 t : Nat) (fz : Bool) (name : ByteArray) (nm : Nat → ByteArray) (cn : Nat → Int) (W w : World) (hn : n ≤ 65536) (hm : m ≤ 131072) (ht : t ≤ 4294967295) (hna : name.size ≤ 1048576) (hsz : ∀ k, k < n → (nm k).size ≤ 1048576) (hs : StrAt w a n nm) (hc : InRow w b m c2 (fun k => .int .u64 (cn k))) (hsb : ∀ q, a = some q → q.block < w.heap.size) (hb0 : ∀ k, k < m → 0 ≤ cn k ∧ cn k ≤ 18446744073709551615) (bel : Below W.heap.size W w) :
    Code.wp Try.prog (dropS 4 (Try.f3.body.getD .skip)) (bodyPost Try.prog Try.f3 fun e w' => e = .returned (.bool true) ∧ Below W.heap.size W w') ⟨#[.slice a n c1, .slice b m c2, .int .u32 t, .bool fz, .string name, u5, u6, u7, u8, u9, u10, u11, u12, u13, u14, u15, u16, u17, u18, u19, u20, u21, u22, u23, u24, u25, u26, u27, u28, u29, u30, u31, u32, u33, u34, u35, u36, u37, u38, u39, u40, u41, u42, u43, u44, u45, u46, u47, u48, u49, u50, u51, u52, u53, u54, u55, u56, u57, u58, u59, u60, u61, u62, u63, u64, u65, u66, u67, u68, u69, u70, u71, u72, u73, u74, u75, u76, u77, u78, u79, u80, u81, u82, u83, u84, u85, u86, u87, u88, u89, u90, u91, u92, u93, u94, u95, u96, u97, u98, u99, u100, u101, u102, u103, u104, u105, u106, u107, u108, u109, u110, u111, u112, u113, u114, u115, u116, u117, u118, u119, u120, u121, u122, u123, u124, u125, u126, u127, u128, u129, u130, u131, u132, u133, u134, u135, u136, u137, u138, u139, u140, u141, u142, u143, u144, u145, u146, u147, u148, u149, u150, u151, u152, u153, u154, u155, u156, u157, u158, u159, u160, u161, u162, u163, u164, u165, u166, u167, u168, u169, u170, u171, u172, u173, u174, u175, u176, u177, u178, u179, u180, u181, u182, u183, u184, u185, u186, u187, u188, u189, u190, u191, u192, u193, u194, u195, u196, u197, u198, u199, u200, u201, u202, u203, u204, u205, u206, u207, u208, u209], []⟩ w := by
  have ng := fun w => run_neq_slice_nil_any (P := Try.prog) w 23 28 b m c2 0 0 Try.underlying23
  have HH := hide (And.intro hsz (And.intro hs (And.intro hsb (And.intro hb0 bel))))
  have hrow := hc
  clear hs hc bel hsb hb0 hsz
  refine wp_seq (x := headS (dropS 4 (Try.f3.body.getD .skip))) (y := (dropS 5 (Try.f3.body.getD .skip))) ?_
  conv => arg 2; whnf
  rcases hrow with ⟨rfl, rfl, rfl⟩ | ⟨x, rfl, q1, q2, q3⟩
  · go_wp2
    obtain ⟨hsz, hs, hsb, hb0, bel⟩ := HH.out
    exact q5 _ _ _ _ _ _ _ _ _ _ _ _ _ _ _ _ _ _ _ _ _ _ _ _ _ _ _ _ _ _ _ _ _ _ _ _ _ _ _ _ _ _ _ _ _ _ _ _ _ _ _ _ _ _ _ _ _ _ _ _ _ _ _ _ _ _ _ _ _ _ _ _ _ _ _ _ _ _ _ _ _ _ _ _ _ _ _ _ _ _ _ _ _ _ _ _ _ _ _ _ _ _ _ _ _ _ _ _ _ _ _ _ _ _ _ _ _ _ _ _ _ _ _ _ _ _ _ _ _ _ _ _ _ _ _ _ _ _ _ _ _ _ _ _ _ _ _ _ _ _ _ _ _ _ _ _ _ _ _ _ _ _ _ _ _ _ _ _ _ _ _ _ _ _ _ _ _ _ _ _ _ _ _ _ _ _ _ _ _ _ _ _ _ _ _ _ _ _ _ _ _ _ _ _ _ a none n 0 c1 0 t fz name nm cn W w hn hm ht hna hsz hs (.inl rfl) hsb (fun q h => by cases h) hb0 bel
  · obtain ⟨W1, W2, m1, m2, r, k⟩ := make_copy 23 28 Try.underlying23 infoN28 m c2 (by omega) x (fun k => .int .u64 (cn k)) (fun _ _ => rfl) w q3
    have HK := hide (And.intro r k)
    clear r k q3
    go_wp2
    obtain ⟨hsz, hs, hsb, hb0, bel⟩ := HH.out
    obtain ⟨r, k⟩ := HK.out
    exact q5 _ _ _ _ _ _ _ _ _ _ _ _ _ _ _ _ _ _ _ _ _ _ _ _ _ _ _ _ _ _ _ _ _ _ _ _ _ _ _ _ _ _ _ _ _ _ _ _ _ _ _ _ _ _ _ _ _ _ _ _ _ _ _ _ _ _ _ _ _ _ _ _ _ _ _ _ _ _ _ _ _ _ _ _ _ _ _ _ _ _ _ _ _ _ _ _ _ _ _ _ _ _ _ _ _ _ _ _ _ _ _ _ _ _ _ _ _ _ _ _ _ _ _ _ _ _ _ _ _ _ _ _ _ _ _ _ _ _ _ _ _ _ _ _ _ _ _ _ _ _ _ _ _ _ _ _ _ _ _ _ _ _ _ _ _ _ _ _ _ _ _ _ _ _ _ _ _ _ _ _ _ _ _ _ _ _ _ _ _ _ _ _ _ _ _ _ _ _ _ _ _ _ _ _ _ a (some ⟨w.heap.size, 0, none⟩) n m c1 m t fz name nm cn W W2 hn hm ht hna hsz (hs.kp k (fun _ _ f => f)) (.inr ⟨_, rfl, rowC_cell r⟩) (fun q h => Nat.lt_of_lt_of_le (hsb q h) k.size) (fun q h => by cases h; exact lt_of_block r) hb0 (kp_below bel k)

set_option maxRecDepth 100000 in
set_option maxHeartbeats 4000000 in
theorem q3 (u5 u6 u7 u8 u9 u10 u11 u12 u13 u14 u15 u16 u17 u18 u19 u20 u21 u22 u23 u24 u25 u26 u27 u28 u29 u30 u31 u32 u33 u34 u35 u36 u37 u38 u39 u40 u41 u42 u43 u44 u45 u46 u47 u48 u49 u50 u51 u52 u53 u54 u55 u56 u57 u58 u59 u60 u61 u62 u63 u64 u65 u66 u67 u68 u69 u70 u71 u72 u73 u74 u75 u76 u77 u78 u79 u80 u81 u82 u83 u84 u85 u86 u87 u88 u89 u90 u91 u92 u93 u94 u95 u96 u97 u98 u99 u100 u101 u102 u103 u104 u105 u106 u107 u108 u109 u110 u111 u112 u113 u114 u115 u116 u117 u118 u119 u120 u121 u122 u123 u124 u125 u126 u127 u128 u129 u130 u131 u132 u133 u134 u135 u136 u137 u138 u139 u140 u141 u142 u143 u144 u145 u146 u147 u148 u149 u150 u151 u152 u153 u154 u155 u156 u157 u158 u159 u160 u161 u162 u163 u164 u165 u166 u167 u168 u169 u170 u171 u172 u173 u174 u175 u176 u177 u178 u179 u180 u181 u182 u183 u184 u185 u186 u187 u188 u189 u190 u191 u192 u193 u194 u195 u196 u197 u198 u199 u200 u201 u202 u203 u204 u205 u206 u207 u208 u209 : Value) (a b : Option Addr) (n m c1 c2 t : Nat) (fz : Bool) (name : ByteArray) (nm : Nat → ByteArray) (cn : Nat → Int) (W w : World) (hn : n ≤ 65536) (hm : m ≤ 131072) (ht : t ≤ 4294967295) (hna : name.size ≤ 1048576) (hsz : ∀ k, k < n → (nm k).size ≤ 1048576) (hs : InRow w a n c1 (fun k => .string (nm k))) (hc : InRow w b m c2 (fun k => .int .u64 (cn k))) (hb0 : ∀ k, k < m → 0 ≤ cn k ∧ cn k ≤ 18446744073709551615) (bel : Below W.heap.size W w) :
    Code.wp Try.prog (dropS 3 (Try.f3.body.getD .skip)) (bodyPost Try.prog Try.f3 fun e w' => e = .returned (.bool true) ∧ Below W.heap.size W w') ⟨#[.slice a n c1, .slice b m c2, .int .u32 t, .bool fz, .string name, u5, u6, u7, u8, u9, u10, u11, u12, u13, u14, u15, u16, u17, u18, u19, u20, u21, u22, u23, u24, u25, u26, u27, u28, u29, u30, u31, u32, u33, u34, u35, u36, u37, u38, u39, u40, u41, u42, u43, u44, u45, u46, u47, u48, u49, u50, u51, u52, u53, u54, u55, u56, u57, u58, u59, u60, u61, u62, u63, u64, u65, u66, u67, u68, u69, u70, u71, u72, u73, u74, u75, u76, u77, u78, u79, u80, u81, u82, u83, u84, u85, u86, u87, u88, u89, u90, u91, u92, u93, u94, u95, u96, u97, u98, u99, u100, u101, u102, u103, u104, u105, u106, u107, u108, u109, u110, u111, u112, u113, u114, u115, u116, u117, u118, u119, u120, u121, u122, u123, u124, u125, u126, u127, u128, u129, u130, u131, u132, u133, u134, u135, u136, u137, u138, u139, u140, u141, u142, u143, u144, u145, u146, u147, u148, u149, u150, u151, u152, u153, u154, u155, u156, u157, u158, u159, u160, u161, u162, u163, u164, u165, u166, u167, u168, u169, u170, u171, u172, u173, u174, u175, u176, u177, u178, u179, u180, u181, u182, u183, u184, u185, u186, u187, u188, u189, u190, u191, u192, u193, u194, u195, u196, u197, u198, u199, u200, u201, u202, u203, u204, u205, u206, u207, u208, u209], []⟩ w := by
  have ng := fun w => run_neq_slice_nil_any (P := Try.prog) w 22 9 a n c1 0 0 Try.underlying22
  have HH := hide (And.intro hsz (And.intro hc (And.intro hb0 bel)))
  have hrow := hs
  clear hs hc bel hb0 hsz
  refine wp_seq (x := headS (dropS 3 (Try.f3.body.getD .skip))) (y := (dropS 4 (Try.f3.body.getD .skip))) ?_
  conv => arg 2; whnf
  rcases hrow with ⟨rfl, rfl, rfl⟩ | ⟨x, rfl, q1, q2, q3⟩
  · go_wp2
    obtain ⟨hsz, hc, hb0, bel⟩ := HH.out
    exact q4 _ _ _ _ _ _ _ _ _ _ _ _ _ _ _ _ _ _ _ _ _ _ _ _ _ _ _ _ _ _ _ _ _ _ _ _ _ _ _ _ _ _ _ _ _ _ _ _ _ _ _ _ _ _ _ _ _ _ _ _ _ _ _ _ _ _ _ _ _ _ _ _ _ _ _ _ _ _ _ _ _ _ _ _ _ _ _ _ _ _ _ _ _ _ _ _ _ _ _ _ _ _ _ _ _ _ _ _ _ _ _ _ _ _ _ _ _ _ _ _ _ _ _ _ _ _ _ _ _ _ _ _ _ _ _ _ _ _ _ _ _ _ _ _ _ _ _ _ _ _ _ _ _ _ _ _ _ _ _ _ _ _ _ _ _ _ _ _ _ _ _ _ _ _ _ _ _ _ _ _ _ _ _ _ _ _ _ _ _ _ _ _ _ _ _ _ _ _ _ _ _ _ _ _ _ none b 0 m 0 c2 t fz name nm cn W w hn hm ht hna hsz (.inl rfl) hc (fun q h => by cases h) hb0 bel
  · obtain ⟨W1, W2, m1, m2, r, k⟩ := make_copy 22 9 Try.underlying22 infoN9 n c1 (by omega) x (fun k => .string (nm k)) (fun _ _ => rfl) w q3
    have HK := hide (And.intro r k)
    clear r k q3
    go_wp2
    obtain ⟨hsz, hc, hb0, bel⟩ := HH.out
    obtain ⟨r, k⟩ := HK.out
    exact q4 _ _ _ _ _ _ _ _ _ _ _ _ _ _ _ _ _ _ _ _ _ _ _ _ _ _ _ _ _ _ _ _ _ _ _ _ _ _ _ _ _ _ _ _ _ _ _ _ _ _ _ _ _ _ _ _ _ _ _ _ _ _ _ _ _ _ _ _ _ _ _ _ _ _ _ _ _ _ _ _ _ _ _ _ _ _ _ _ _ _ _ _ _ _ _ _ _ _ _ _ _ _ _ _ _ _ _ _ _ _ _ _ _ _ _ _ _ _ _ _ _ _ _ _ _ _ _ _ _ _ _ _ _ _ _ _ _ _ _ _ _ _ _ _ _ _ _ _ _ _ _ _ _ _ _ _ _ _ _ _ _ _ _ _ _ _ _ _ _ _ _ _ _ _ _ _ _ _ _ _ _ _ _ _ _ _ _ _ _ _ _ _ _ _ _ _ _ _ _ _ _ _ _ _ _ (some ⟨w.heap.size, 0, none⟩) b n m n c2 t fz name nm cn W W2 hn hm ht hna hsz (.inr ⟨_, rfl, rowS_cell r⟩) (hc.kp k) (fun q h => by cases h; exact lt_of_block r) hb0 (kp_below bel k)

end Go.Proofs.Qxb6616830a
