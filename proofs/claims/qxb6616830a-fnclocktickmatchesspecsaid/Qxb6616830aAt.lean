/-
  tickAt, tick, ZZtick.
-/
import Derived.Test.Qxb6616830aTick
namespace Go.Proofs.Qxb6616830a
open Go.RowKit
set_option linter.unusedVariables false

def bump (cn : Nat → Int) (i : Nat) : Nat → Int := fun k => if k = i then cn k + 1 else cn k
/-- i pushed into the row at place i. -/
def ins {A : Type} (f : Nat → A) (i : Nat) (x : A) : Nat → A := fun k => if k < i then f k else if k = i then x else f (k - 1)

theorem Ent.bump {w : World} {g n : Nat} {nm : Nat → ByteArray} {cn : Nat → Int} (h : Ent w g n nm cn) (i : Nat) (hi : i < n) : Ent (w.setCell ⟨g, i * 2 + 1, none⟩ (.int .u64 (cn i + 1))) g n nm (bump cn i) := by
  refine ⟨by simpa [World.setCell] using h.lt, fun k hk => ?_, fun k hk => ?_, fun j => (World.frozen?_setCell _ _ _ _).trans (h.free j)⟩
  · exact (World.cell?_setCell_other _ _ _ _ (by simp <;> omega)).trans (h.name k hk)
  · by_cases e : k = i
    · subst e
      rw [World.cell?_setCell_same _ _ _ (h.count k hk)]
      simp [Qxb6616830a.bump]
    · rw [World.cell?_setCell_other _ _ _ _ (by simp <;> omega), h.count k hk]
      simp [Qxb6616830a.bump, e]

/-- What tickAt leaves where the name was found at i. -/
def APost (B g n i : Nat) (nm : Nat → ByteArray) (cn : Nat → Int) (fz : Bool) (w : World) (e : Ending) (w' : World) : Prop :=
  ∃ g' c', e = .returned (.tuple #[]) ∧ w'.heap[B]? = some (.cells #[.slice (some ⟨g', 0, none⟩) n c', .int .u32 i, .bool false] 31 (0, 0)) ∧ Ent w' g' n nm (bump cn i) ∧ ((fz = false ∧ g' = g) ∨ (fz = true ∧ w.heap.size ≤ g')) ∧ Kp (fun j => j = B ∨ (fz = false ∧ j = g)) w w'

set_option maxRecDepth 100000 in
set_option maxHeartbeats 4000000 in
theorem at_found (B g n c i : Nat) (nm : Nat → ByteArray) (cn : Nat → Int) (t : Int) (fz : Bool) (name : ByteArray) (w : World) (hi : i < n) (hn : n ≤ 1048577) (hE : Ent w g n nm cn) (hB : w.heap[B]? = some (.cells #[.slice (some ⟨g, 0, none⟩) n c, .int .u32 t, .bool fz] 31 (0, 0)))
    (hb0 : 0 ≤ cn i) (hb1 : cn i < 18446744073709551615) (hgB : g ≠ B) :
    Calls Try.prog 19 #[.pointer (some ⟨B, 0, none⟩), .int .i64 i, .bool true, .string name] w (APost B g n i nm cn fz w) := by
  have c1 : w.cell? ⟨B, 1, none⟩ = some (.int .u32 t) := (cell_of_row w _ 1 _ _ _ hB).trans rfl
  have f1 : ∀ j, w.frozen? ⟨B, j, none⟩ = false := fun j => frozen_of_row w _ j _ _ hB
  have hk1 : Kp (fun j => j = B) w (w.setCell ⟨B, 1, none⟩ (.int .u32 i)) := (Kp.refl (fun j => j = B) w).setCell (p := ⟨B, 1, none⟩) (fun _ => rfl) _
  have HB1 := hide (show (w.setCell ⟨B, 1, none⟩ (.int .u32 i)).heap[B]? = some (.cells #[.slice (some ⟨g, 0, none⟩) n c, .int .u32 i, .bool fz] 31 (0, 0)) from (heap_setCell_same _ _ _ _ _ _ hB).trans rfl)
  have HE1 := hide (hE.kp hk1 hgB)
  have HK1 := hide hk1
  have lB := lt_of_block hB
  have hsz : (w.setCell ⟨B, 1, none⟩ (.int .u32 i)).heap.size = w.heap.size := by simp [World.setCell]
  have HSZ := hide hsz
  clear hE hB hk1 hsz
  go_enter Try.func19, Try.ntmps19
  go_wp2_with (go_at_call 23; refine (thaw_any B g n c nm cn i fz _ ?q0 hn HE1.out HB1.out).mono ?_)
  case q0 => omega
  rintro e w1 ⟨g', c', rfl, hb, hE', hor, hk⟩
  rw [HSZ.out] at hor
  have hgB' : g' ≠ B := by omega
  have d0 : w1.cell? ⟨B, 0, none⟩ = some (.slice (some ⟨g', 0, none⟩) n c') := (cell_of_row w1 _ 0 _ _ _ hb).trans rfl
  have d1 := hE'.count i hi
  have d2 := hE'.free (i * 2 + 1)
  have HE' := hide (hE'.bump i hi)
  have HBB := hide ((heap_setCell_other w1 ⟨g', i * 2 + 1, none⟩ B (.int .u64 (cn i + 1)) (fun e => hgB' e.symm)).trans hb)
  have HOR := hide hor
  have HK := hide ((HK1.out.trans hk (fun _ _ h => h)).mono (T := fun j => j = B ∨ (fz = false ∧ j = g)) (fun _ _ h => .inl h))
  obtain ⟨x, hx⟩ : ∃ x, cn i = x := ⟨_, rfl⟩
  rw [hx] at d1 HE' HBB hb0 hb1
  have i1 : (i : Int) < (n : Int) := by omega
  clear hE' hor hk hb hx c1 f1 HE1 HB1
  go_wp2
  go_end0
  refine ⟨g', c', rfl, HBB.out, HE'.out, HOR.out, HK.out.setCell (p := ⟨g', i * 2 + 1, none⟩) (fun hl => ?_) _⟩
  rcases HOR.out with h | h
  · exact .inr h
  · exact absurd hl (by simp; omega)

/-- copy of entries (two cells each) into a row that is known whole. -/
theorem run_copy2 (w : World) (ty : TypeId) (g o dLen dCap : Nat) (a : Addr) (sLen sCap m : Nat) (cur : Array Value) (t : TypeId) (cs : List Value)
    (hg : w.heap[g]? = some (.cells cur t (0, 0))) (hm : Nat.min sLen dLen = m) (hn : cs.length = m * 2)
    (hsrc : ∀ j v, cs[j]? = some v → w.cell? (a.add j) = some v) (hfit : o + cs.length ≤ cur.size) (h1 : ∀ v ∈ cs, v.oneCell' = true) :
    (Builtin.copy_ #[29, 29] ty #[.slice (some ⟨g, o, none⟩) dLen dCap, .slice (some a) sLen sCap]).run Try.prog w =
      .ok (goInt m) (w.setRow g (cur.toList.take o ++ cs ++ cur.toList.drop (o + cs.length)).toArray) := by
  have hl := run_loadCells_list (P := Try.prog) w a cs hsrc
  have hst := run_storeCells_at Try.prog g o t cs 0 cur w hg (by simpa using hfit) h1
  obtain ⟨ti, hi0, hti⟩ := Option.map_eq_some_iff.1 info40
  simp only [Prod.mk.injEq] at hti
  simp [Builtin.copy_, run_underlying Try.underlying29, Builtin.lenOf, Builtin.firstCells, sizeOf, typeInfo, hi0, hti.2.1, hm, ← hn, hl, hst]

/-- The new row, cell by cell. -/
theorem ins_row {nm : Nat → ByteArray} {cn : Nat → Int} {n i : Nat} {name : ByteArray} {Z X : List Value} (hi : i ≤ n) (hZ : Z.length = (n + 1) * 2)
    (hX : ∀ j, j < (n + 1) * 2 → X[j]? = if j < i * 2 then (rowE nm cn n)[j]? else if j = i * 2 then some (.string name) else if j = i * 2 + 1 then some (.int .u64 1) else (rowE nm cn n)[j - 2]?) :
    ∀ j, j < (n + 1) * 2 → X[j]? = (rowE (ins nm i name) (ins cn i 1) (n + 1))[j]? := by
  intro j hj
  rw [hX j hj]
  obtain ⟨k, hk⟩ : ∃ k, j = k * 2 ∨ j = k * 2 + 1 := ⟨j / 2, by omega⟩
  have hkn : k < n + 1 := by omega
  have R := rowE_at (ins nm i name) (ins cn i 1) (n + 1) k hkn
  rcases Nat.lt_trichotomy k i with h | h | h
  · have E := rowE_at nm cn n k (by omega)
    rcases hk with rfl | rfl
    · rw [if_pos (by omega), R.1, E.1]; simp [ins, h]
    · rw [if_pos (by omega), R.2, E.2]; simp [ins, h]
  · subst h
    rcases hk with rfl | rfl
    · rw [if_neg (by omega), if_pos rfl, R.1]; simp [ins]
    · rw [if_neg (by omega), if_neg (by omega), if_pos rfl, R.2]; simp [ins]
  · have E := rowE_at nm cn n (k - 1) (by omega)
    have n1 : ¬ k < i := by omega
    have n2 : ¬ k = i := by omega
    rcases hk with rfl | rfl
    · rw [if_neg (by omega), if_neg (by omega), if_neg (by omega), R.1, show k * 2 - 2 = (k - 1) * 2 from by omega, E.1]; simp [ins, n1, n2]
    · rw [if_neg (by omega), if_neg (by omega), if_neg (by omega), R.2, show k * 2 + 1 - 2 = (k - 1) * 2 + 1 from by omega, E.2]; simp [ins, n1, n2]

/-- What tickAt leaves where the name goes in at i. -/
def BPost (B n i : Nat) (nm : Nat → ByteArray) (cn : Nat → Int) (name : ByteArray) (w : World) (e : Ending) (w' : World) : Prop :=
  ∃ g', e = .returned (.tuple #[]) ∧ w'.heap[B]? = some (.cells #[.slice (some ⟨g', 0, none⟩) (n + 1) (n + 1), .int .u32 i, .bool false] 31 (0, 0)) ∧ Ent w' g' (n + 1) (ins nm i name) (ins cn i 1) ∧ w.heap.size ≤ g' ∧ Kp (fun j => j = B) w w'

theorem add_none (g o j : Nat) : (⟨g, o, none⟩ : Addr).add j = ⟨g, o + j, none⟩ := by unfold Addr.add; split <;> simp_all
theorem ins_cells {nm : Nat → ByteArray} {cn : Nat → Int} {n i : Nat} {name : ByteArray} {Z X1 X2 : List Value} (hi : i ≤ n) (hZ : Z.length = (n + 1) * 2) (h1 : (rowE nm cn n).take (i * 2) ++ Z.drop (i * 2) = X1) (l1 : X1.length = (n + 1) * 2)
    (h2 : (X1.set (i * 2) (.string name)).set (i * 2 + 1) (.int .u64 1) = X2) :
    ∀ j, j < (n + 1) * 2 → (X2.take ((i + 1) * 2) ++ (rowE nm cn n).drop (i * 2))[j]? = if j < i * 2 then (rowE nm cn n)[j]? else if j = i * 2 then some (.string name) else if j = i * 2 + 1 then some (.int .u64 1) else (rowE nm cn n)[j - 2]? := by
  intro j hj
  have l2 : X2.length = (n + 1) * 2 := by rw [← h2]; simpa using l1
  have lr := rowE_length nm cn n
  by_cases a : j < (i + 1) * 2
  · rw [List.getElem?_append_left (by rw [List.length_take]; omega), List.getElem?_take, if_pos a, ← h2, List.getElem?_set, List.getElem?_set]
    by_cases b : j < i * 2
    · rw [if_neg (by omega), if_neg (by omega), if_pos b, ← h1, List.getElem?_append_left (by rw [List.length_take]; omega), List.getElem?_take, if_pos b]
    · by_cases c : j = i * 2
      · rw [if_neg (by omega), if_pos c.symm, if_neg b, if_pos c, if_pos (by omega)]
      · have d : j = i * 2 + 1 := by omega
        rw [if_pos d.symm, if_neg b, if_neg c, if_pos d, List.length_set, if_pos (by omega)]
  · rw [List.getElem?_append_right (by rw [List.length_take]; omega), List.length_take, List.getElem?_drop, if_neg (by omega), if_neg (by omega), if_neg (by omega)]
    congr 1
    omega

theorem b_post {B G g n c i : Nat} {nm : Nat → ByteArray} {cn : Nat → Int} {fz : Bool} {name : ByteArray} {w W1 W2 W3 W4 W5 : World} {X1 X2 Z : List Value}
    (hb5 : W5.heap[B]? = some (.cells #[.slice (some ⟨g, 0, none⟩) n c, .int .u32 i, .bool fz] 31 (0, 0)))
    (r5 : W5.heap[G]? = some (.cells (X2.take ((i + 1) * 2) ++ (rowE nm cn n).drop (i * 2)).toArray 40 (0, 0))) (k5 : Kp (fun j => j = G) W4 W5)
    (k1 : Kp (fun j => j = B) w W1) (k2 : Kp (fun _ => False) W1 W2) (k3 : Kp (fun j => j = G) W2 W3) (k4 : Kp (fun j => j = G) W3 W4) (z1 : W1.heap.size = w.heap.size)
    (hX1 : (rowE nm cn n).take (i * 2) ++ Z.drop (i * 2) = X1) (hZ : Z.length = (n + 1) * 2) (l1 : X1.length = (n + 1) * 2) (hX2 : (X1.set (i * 2) (.string name)).set (i * 2 + 1) (.int .u64 1) = X2)
    (hGB : G ≠ B) (hG : W1.heap.size = G) (hi : i ≤ n) :
    BPost B n i nm cn name w (.returned (.tuple #[])) ((W5.setCell ⟨B, 0, none⟩ (.slice (some ⟨G, 0, none⟩) (n + 1) (n + 1))).setCell ⟨B, 2, none⟩ (.bool false)) := by
  have k6 : Kp (fun j => j = B) W5 ((W5.setCell ⟨B, 0, none⟩ (.slice (some ⟨G, 0, none⟩) (n + 1) (n + 1))).setCell ⟨B, 2, none⟩ (.bool false)) := ((Kp.refl (fun j => j = B) W5).setCell (p := ⟨B, 0, none⟩) (fun _ => rfl) _).setCell (p := ⟨B, 2, none⟩) (fun _ => rfl) _
  have s2 := k2.size
  have s3 := k3.size
  have s4 := k4.size
  have s5 := k5.size
  refine ⟨G, rfl, ?_, (Ent.of_row r5 (ins_row hi hZ (ins_cells hi hZ hX1 l1 hX2))).kp k6 hGB, by omega, ?_⟩
  · rw [heap_setCell_same _ _ _ _ _ _ (heap_setCell_same _ _ _ _ _ _ hb5)]
    rfl
  · have a1 : Kp (fun j => j = B) w W2 := k1.trans k2 (fun _ _ f => f.elim)
    have a2 : Kp (fun j => j = B) w W3 := a1.trans k3 (fun j hj e => absurd hj (by omega))
    have a3 : Kp (fun j => j = B) w W4 := a2.trans k4 (fun j hj e => absurd hj (by omega))
    have a4 : Kp (fun j => j = B) w W5 := a3.trans k5 (fun j hj e => absurd hj (by omega))
    exact a4.trans k6 (fun _ _ h => h)

set_option maxRecDepth 100000 in
set_option maxHeartbeats 4000000 in
theorem at_new (B g n c i : Nat) (nm : Nat → ByteArray) (cn : Nat → Int) (t : Int) (fz : Bool) (name : ByteArray) (w : World) (hi : i ≤ n) (hn : n ≤ 65536) (hnc : n ≤ c) (hc : c ≤ 1048577) (hE : Ent w g n nm cn) (hB : w.heap[B]? = some (.cells #[.slice (some ⟨g, 0, none⟩) n c, .int .u32 t, .bool fz] 31 (0, 0))) (hgB : g ≠ B) :
    Calls Try.prog 19 #[.pointer (some ⟨B, 0, none⟩), .int .i64 i, .bool false, .string name] w (BPost B n i nm cn name w) := by
  have c1 : w.cell? ⟨B, 1, none⟩ = some (.int .u32 t) := (cell_of_row w _ 1 _ _ _ hB).trans rfl
  have f1 : ∀ j, w.frozen? ⟨B, j, none⟩ = false := fun j => frozen_of_row w _ j _ _ hB
  have lB := lt_of_block hB
  obtain ⟨W1, hW1⟩ : ∃ W, w.setCell ⟨B, 1, none⟩ (.int .u32 i) = W := ⟨_, rfl⟩
  have k1 : Kp (fun j => j = B) w W1 := by rw [← hW1]; exact (Kp.refl (fun j => j = B) w).setCell (p := ⟨B, 1, none⟩) (fun _ => rfl) _
  have b1 : W1.heap[B]? = some (.cells #[.slice (some ⟨g, 0, none⟩) n c, .int .u32 i, .bool fz] 31 (0, 0)) := by rw [← hW1]; exact (heap_setCell_same _ _ _ _ _ _ hB).trans rfl
  have e1 : Ent W1 g n nm cn := hE.kp k1 hgB
  have z1 : W1.heap.size = w.heap.size := by rw [← hW1]; simp [World.setCell]
  obtain ⟨Z, hZ, hmk⟩ := make40 (n + 1) (by omega)
  obtain ⟨G, hG⟩ : ∃ G, W1.heap.size = G := ⟨_, rfl⟩
  obtain ⟨W2, hW2⟩ : ∃ W, W1.alloc (.cells Z.toArray 40) = W := ⟨_, rfl⟩
  have m1 := hmk W1
  rw [show ((n + 1 : Nat) : Int) = (n : Int) + 1 from by omega, hG, hW2] at m1
  have r2 : W2.heap[G]? = some (.cells Z.toArray 40 (0, 0)) := by rw [← hW2, ← hG]; exact heap_alloc_new W1 _
  have k2 : Kp (fun _ => False) W1 W2 := by rw [← hW2]; exact (Kp.refl _ W1).alloc _
  have b2 := k2.row b1 (fun f => f)
  have e2 := e1.kp k2 (fun f => f)
  have hGB : G ≠ B := by omega
  have hGg : G ≠ g := by have := e1.lt; omega
  have nw := ent_news e2
  obtain ⟨X1, hX1⟩ : ∃ X, (rowE nm cn n).take (i * 2) ++ Z.drop (i * 2) = X := ⟨_, rfl⟩
  obtain ⟨W3, hW3⟩ : ∃ W, W2.setRow G X1.toArray = W := ⟨_, rfl⟩
  have l1 : ((rowE nm cn n).take (i * 2)).length = i * 2 := by rw [List.length_take, rowE_length]; omega
  have m2 : ∀ ty, (Builtin.copy_ #[29, 29] ty #[.slice (some ⟨G, 0, none⟩) (n + 1) (n + 1), .slice (some ⟨g, 0, none⟩) i c]).run Try.prog W2 = .ok (.int .i64 i) W3 := by
    intro ty
    have h := run_copy2 W2 ty G 0 (n + 1) (n + 1) ⟨g, 0, none⟩ i c i Z.toArray 40 ((rowE nm cn n).take (i * 2)) r2 (Nat.min_eq_left (by omega)) l1 (fun j v hv => nw j v (by
      rw [List.getElem?_take] at hv
      split at hv
      · exact hv
      · cases hv)) (by simp only [l1, List.size_toArray, hZ]; omega) (fun v hv => rowE_one nm cn n v (List.mem_of_mem_take hv))
    rw [h, l1]
    simp only [goInt, List.take_zero, List.nil_append, Nat.zero_add]
    rw [hX1, hW3]
  have r3 : W3.heap[G]? = some (.cells X1.toArray 40 (0, 0)) := by rw [← hW3]; exact setRow_heap _ _ _ _ _ _ r2
  have k3 : Kp (fun j => j = G) W2 W3 := by rw [← hW3]; exact (Kp.refl (fun j => j = G) W2).setRow (fun _ => rfl) _
  have b3 := k3.row b2 (fun e => hGB e.symm)
  have e3 := e2.kp k3 (fun e => hGg e.symm)
  have c20 : W2.cell? ⟨B, 0, none⟩ = some (.slice (some ⟨g, 0, none⟩) n c) := (cell_of_row W2 _ 0 _ _ _ b2).trans rfl
  have c10 : W1.cell? ⟨B, 0, none⟩ = some (.slice (some ⟨g, 0, none⟩) n c) := (cell_of_row W1 _ 0 _ _ _ b1).trans rfl
  have lx1 : X1.length = (n + 1) * 2 := by rw [← hX1, List.length_append, l1, List.length_drop, hZ]; omega
  have s1 := cvAll r3 (i * 2) (by omega)
  have s2 := cvAll r3 (i * 2 + 1) (by omega)
  have s3 : ∀ j, W3.frozen? ⟨G, j, none⟩ = false := fun j => frozen_of_row W3 _ j _ _ r3
  obtain ⟨W4, hW4⟩ : ∃ W, (W3.setCell ⟨G, i * 2, none⟩ (.string name)).setCell ⟨G, i * 2 + 1, none⟩ (.int .u64 1) = W := ⟨_, rfl⟩
  have k4 : Kp (fun j => j = G) W3 W4 := by rw [← hW4]; exact ((Kp.refl (fun j => j = G) W3).setCell (p := ⟨G, i * 2, none⟩) (fun _ => rfl) _).setCell (p := ⟨G, i * 2 + 1, none⟩) (fun _ => rfl) _
  have r4 : W4.heap[G]? = some (.cells ((X1.set (i * 2) (.string name)).set (i * 2 + 1) (.int .u64 1)).toArray 40 (0, 0)) := by rw [← hW4, heap_setCell_same _ _ _ _ _ _ (heap_setCell_same _ _ _ _ _ _ r3)]; simp
  have b4 := k4.row b3 (fun e => hGB e.symm)
  have e4 := e3.kp k4 (fun e => hGg e.symm)
  have c40 : W4.cell? ⟨B, 0, none⟩ = some (.slice (some ⟨g, 0, none⟩) n c) := (cell_of_row W4 _ 0 _ _ _ b4).trans rfl
  have hin : (i : Int) < (n : Int) + 1 := by omega
  have hic : i ≤ c := by omega
  have HALL := hide (And.intro r4 (And.intro b4 (And.intro e4 (And.intro k1 (And.intro k2 (And.intro k3 (And.intro k4 (And.intro z1 (And.intro hX1 (And.intro hZ lx1))))))))))
  clear r4 b4 e4 k1 k2 k3 k4 z1 hX1 hZ lx1 hmk b1 e1 r2 b2 e2 nw l1 r3 b3 e3 hE hB
  go_enter Try.func19, Try.ntmps19
  go_wp2
  clear hW1 hW2 hW3 hW4 m1 m2
  have w1 : IntKind.i64.wrap ((i : Int) + 1) = (i : Int) + 1 := by rw [show ((i : Int) + 1) = ((i + 1 : Nat) : Int) from by omega]; simp [IntKind.wrap, IntKind.signed, IntKind.bits]; omega
  have w2 : (0 : Int) ≤ (i : Int) + 1 := by omega
  have w3 : (i : Int) + 1 ≤ (n : Int) + 1 := by omega
  have w4 : ((i : Int) + 1).toNat = i + 1 := by omega
  have w5 : (i : Int) ≤ (n : Int) := by omega
  have w6 : i + 1 ≤ n + 1 := by omega
  obtain ⟨X2, hX2⟩ : ∃ X, (X1.set (i * 2) (.string name)).set (i * 2 + 1) (.int .u64 1) = X := ⟨_, rfl⟩
  rw [hX2] at HALL
  obtain ⟨W5, hW5⟩ : ∃ W, W4.drew.setRow G (X2.take ((i + 1) * 2) ++ (rowE nm cn n).drop (i * 2)).toArray = W := ⟨_, rfl⟩
  have r5 : W5.heap[G]? = some (.cells (X2.take ((i + 1) * 2) ++ (rowE nm cn n).drop (i * 2)).toArray 40 (0, 0)) := by rw [← hW5]; exact setRow_heap _ _ _ _ _ _ HALL.out.1
  have k5 : Kp (fun j => j = G) W4 W5 := by rw [← hW5]; exact (Kp.refl (fun j => j = G) W4).drew.setRow (fun _ => rfl) _
  have HX2 := hide hX2
  have lx2 : X2.length = (n + 1) * 2 := by rw [← hX2]; simpa using HALL.out.2.2.2.2.2.2.2.2.2.2
  clear hX2
  have lr := rowE_length nm cn n
  by_cases hin2 : i = n
  · subst hin2
    have m5 : ∀ ty, ∀ a, (Builtin.copy_ #[29, 29] ty #[.slice (some ⟨G, 0, none⟩) 0 0, .slice (some a) 0 (c - i)]).run Try.prog W4.drew = .ok (.int .i64 0) W5 := by
      intro ty a
      have h := run_copy2 W4.drew ty G 0 0 0 a 0 (c - i) 0 X2.toArray 40 [] HALL.out.1 rfl rfl (fun j v hv => by simp at hv) (by simp) (fun v hv => by simp at hv)
      rw [h, ← hW5]
      simp only [goInt, List.take_zero, List.nil_append, List.length_nil, List.drop_zero, Nat.add_zero]
      rw [List.take_of_length_le (by omega), List.drop_of_length_le (by omega), List.append_nil]
      rfl
    by_cases hci : c = i
    · have m6 := fun ty => m5 ty ⟨g, 0, none⟩
      clear m5
      subst hci
      simp only [Nat.sub_self] at m6
      have hb5 := k5.row HALL.out.2.1 (fun e => hGB e.symm)
      have d0 : W5.cell? ⟨B, 0, none⟩ = some (.slice (some ⟨g, 0, none⟩) c c) := (cell_of_row W5 _ 0 _ _ _ hb5).trans rfl
      have d2 : W5.cell? ⟨B, 2, none⟩ = some (.bool fz) := (cell_of_row W5 _ 2 _ _ _ hb5).trans rfl
      have d3 : ∀ j, W5.frozen? ⟨B, j, none⟩ = false := fun j => frozen_of_row W5 _ j _ _ hb5
      have HB5 := hide hb5
      have HR5 := hide r5
      have HK5 := hide k5
      clear hb5 r5 k5 hW5
      go_region_held3 (fun wx => wx.cell? ⟨B, 0, none⟩ = some (.slice (some ⟨g, 0, none⟩) c c)) (first | exact c40 | exact d0) (fail)
      go_wp2
      go_end0
      obtain ⟨q1, q2, q3, q4, q5, q6, q7, q8, q9, q10, q11⟩ := HALL.out
      exact b_post HB5.out HR5.out HK5.out q4 q5 q6 q7 q8 q9 q10 q11 HX2.out hGB hG hi
    · have m6 := fun ty => m5 ty ⟨g, i * 2, none⟩
      clear m5
      have hb5 := k5.row HALL.out.2.1 (fun e => hGB e.symm)
      have d0 : W5.cell? ⟨B, 0, none⟩ = some (.slice (some ⟨g, 0, none⟩) i c) := (cell_of_row W5 _ 0 _ _ _ hb5).trans rfl
      have d2 : W5.cell? ⟨B, 2, none⟩ = some (.bool fz) := (cell_of_row W5 _ 2 _ _ _ hb5).trans rfl
      have d3 : ∀ j, W5.frozen? ⟨B, j, none⟩ = false := fun j => frozen_of_row W5 _ j _ _ hb5
      have HB5 := hide hb5
      have HR5 := hide r5
      have HK5 := hide k5
      clear hb5 r5 k5 hW5
      go_region_held3 (fun wx => wx.cell? ⟨B, 0, none⟩ = some (.slice (some ⟨g, 0, none⟩) i c)) (first | exact c40 | exact d0) (fail)
      go_wp2
      go_end0
      obtain ⟨q1, q2, q3, q4, q5, q6, q7, q8, q9, q10, q11⟩ := HALL.out
      exact b_post HB5.out HR5.out HK5.out q4 q5 q6 q7 q8 q9 q10 q11 HX2.out hGB hG hi
  · have w7 : ¬ i + 1 = n + 1 := by omega
    have w8 : (i : Int) + 1 < (n : Int) + 1 := by omega
    have w9 : ¬ n = i := by omega
    have w10 : ¬ c = i := by omega
    have m5 : ∀ ty, (Builtin.copy_ #[29, 29] ty #[.slice (some ⟨G, (i + 1) * 2, none⟩) (n - i) (n - i), .slice (some ⟨g, i * 2, none⟩) (n - i) (c - i)]).run Try.prog W4.drew = .ok (.int .i64 ((n - i : Nat) : Int)) W5 := by
      intro ty
      have ld : ((rowE nm cn n).drop (i * 2)).length = (n - i) * 2 := by rw [List.length_drop, lr]; omega
      have h := run_copy2 W4.drew ty G ((i + 1) * 2) (n - i) (n - i) ⟨g, i * 2, none⟩ (n - i) (c - i) (n - i) X2.toArray 40 ((rowE nm cn n).drop (i * 2)) HALL.out.1 (Nat.min_self _) ld (fun j v hv => by
        rw [List.getElem?_drop] at hv
        have := ent_news HALL.out.2.2.1 _ _ hv
        have ha : (⟨g, 0, none⟩ : Addr).add (i * 2 + j) = (⟨g, i * 2, none⟩ : Addr).add j := by rw [add_none, add_none, Nat.zero_add]
        rw [ha] at this
        exact this) (by rw [ld]; simp only [List.size_toArray, lx2]; omega) (fun v hv => rowE_one nm cn n v (List.mem_of_mem_drop hv))
      rw [h, ← hW5]
      simp only [goInt]
      rw [show List.drop ((i + 1) * 2 + ((rowE nm cn n).drop (i * 2)).length) X2.toArray.toList = [] from List.drop_of_length_le (by rw [ld]; simp only [lx2]; omega), List.append_nil]
    have hb5 := k5.row HALL.out.2.1 (fun e => hGB e.symm)
    have d0 : W5.cell? ⟨B, 0, none⟩ = some (.slice (some ⟨g, 0, none⟩) n c) := (cell_of_row W5 _ 0 _ _ _ hb5).trans rfl
    have d2 : W5.cell? ⟨B, 2, none⟩ = some (.bool fz) := (cell_of_row W5 _ 2 _ _ _ hb5).trans rfl
    have d3 : ∀ j, W5.frozen? ⟨B, j, none⟩ = false := fun j => frozen_of_row W5 _ j _ _ hb5
    have HB5 := hide hb5
    have HR5 := hide r5
    have HK5 := hide k5
    clear hb5 r5 k5 hW5
    go_region_held3 (fun wx => wx.cell? ⟨B, 0, none⟩ = some (.slice (some ⟨g, 0, none⟩) n c)) (first | exact c40 | exact d0) (fail)
    go_wp2
    go_end0
    obtain ⟨q1, q2, q3, q4, q5, q6, q7, q8, q9, q10, q11⟩ := HALL.out
    exact b_post HB5.out HR5.out HK5.out q4 q5 q6 q7 q8 q9 q10 q11 HX2.out hGB hG hi
end Go.Proofs.Qxb6616830a
