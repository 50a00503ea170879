/-
  'ZZReadLogical': the rows that it makes and reads; the plain lemmas of its two loops.
-/
import Derived.Test.Qxb6616795aFmtChainL
namespace Go.Proofs.Qxb6616795aFmt
open Go.RowKit

def i64V (L : List Int) : List Value := L.map (Value.int .i64)
/-- A slice of integers: nil and empty; or a block of its own. -/
def IntRow (w : World) (t : TypeId) (v : Value) (L : List Int) : Prop :=
  (v = .slice none 0 0 ∧ L = []) ∨ ∃ b, v = .slice (some ⟨b, 0, none⟩) L.length L.length ∧ w.heap[b]? = some (.cells (i64V L).toArray t (0, 0))
theorem IntRow.kp {S : Nat → Prop} {a b : World} {t : TypeId} {v : Value} {L : List Int} (h : IntRow a t v L) (hk : Kp S a b) (hs : ∀ db, v.ownBlock = some db → ¬ S db) : IntRow b t v L := by
  rcases h with h | ⟨db, rfl, hdb⟩
  · exact .inl h
  · exact .inr ⟨db, rfl, hk.row hdb (hs db rfl)⟩
theorem IntRow.cell {w : World} {b : Nat} {t : TypeId} {L : List Int} (h : w.heap[b]? = some (.cells (i64V L).toArray t (0, 0))) (k : Nat) (hk : k < L.length) : w.cell? ⟨b, k, none⟩ = some (.int .i64 (L.getD k 0)) := by
  rw [cell_of_row w b k _ _ _ h]
  simp [i64V, hk]

/-- The leaves as cells. -/
def leafV : List Int → List Int → List Int → List Value
  | a :: ar, b :: br, c :: cr => .int .i64 a :: .int .i64 b :: .int .i64 c :: leafV ar br cr
  | _, _, _ => []
theorem leafV_length (A B C : List Int) (h1 : B.length = A.length) (h2 : C.length = A.length) : (leafV A B C).length = A.length * 3 := by
  induction A generalizing B C with
  | nil => cases B <;> cases C <;> simp_all [leafV]
  | cons a A ih =>
    cases B with
    | nil => simp at h1
    | cons b B =>
      cases C with
      | nil => simp at h2
      | cons c C => simp only [leafV, List.length_cons]; rw [ih B C (by simpa using h1) (by simpa using h2)]; omega
theorem leafV_at (A B C : List Int) (h1 : B.length = A.length) (h2 : C.length = A.length) (k : Nat) (hk : k < A.length) :
    (leafV A B C)[k * 3]? = some (.int .i64 (A.getD k 0)) ∧ (leafV A B C)[k * 3 + 1]? = some (.int .i64 (B.getD k 0)) ∧ (leafV A B C)[k * 3 + 2]? = some (.int .i64 (C.getD k 0)) := by
  induction A generalizing B C k with
  | nil => simp at hk
  | cons a A ih =>
    cases B with
    | nil => simp at h1
    | cons b B =>
      cases C with
      | nil => simp at h2
      | cons c C =>
        cases k with
        | zero => simp [leafV]
        | succ k =>
          have := ih B C (by simpa using h1) (by simpa using h2) k (by simpa using hk)
          simp only [leafV, List.getD_cons_succ]
          rw [show (k + 1) * 3 = k * 3 + 1 + 1 + 1 from by omega]
          simpa [List.getElem?_cons_succ] using this

/-- A row of which the first k cells are those of X, the others those of Z. -/
def mix (X Z : List Value) (k : Nat) : List Value := X.take k ++ Z.drop k
theorem mix_length (X Z : List Value) (h : X.length = Z.length) (k : Nat) : (mix X Z k).length = Z.length := by simp [mix]; omega
theorem mix_zero (X Z : List Value) : mix X Z 0 = Z := by simp [mix]
theorem mix_all (X Z : List Value) (h : X.length = Z.length) : mix X Z X.length = X := by simp only [mix, List.take_length]; rw [List.drop_of_length_le (by omega), List.append_nil]
theorem mix_set (X Z : List Value) (h : X.length = Z.length) (k : Nat) (v : Value) (hv : X[k]? = some v) : (mix X Z k).toArray.setIfInBounds k v = (mix X Z (k + 1)).toArray := by
  have hk : k < X.length := (List.getElem?_eq_some_iff.1 hv).1
  apply Array.ext'
  simp only [Array.toList_setIfInBounds, mix]
  apply List.ext_getElem?
  intro j
  simp only [List.getElem?_set, List.getElem?_append, List.length_append, List.length_take, List.length_drop, List.getElem?_take, List.getElem?_drop]
  by_cases e : k = j
  · subst e
    rw [if_pos rfl, if_pos (by omega), if_pos (by omega), if_pos (by omega)]
    exact hv.symm
  · rw [if_neg e]
    by_cases hj : j < k
    · rw [if_pos (by omega), if_pos (by omega), if_pos (by omega), if_pos (by omega)]
    · rw [if_neg (by omega), if_neg (by omega)]
      congr 1
      omega

theorem leafV_append (A B C A' B' C' : List Int) (h1 : B.length = A.length) (h2 : C.length = A.length) : leafV (A ++ A') (B ++ B') (C ++ C') = leafV A B C ++ leafV A' B' C' := by
  induction A generalizing B C with
  | nil =>
    cases B with
    | nil => cases C with
      | nil => simp [leafV]
      | cons c C => simp at h2
    | cons b B => simp at h1
  | cons a A ih =>
    cases B with
    | nil => simp at h1
    | cons b B =>
      cases C with
      | nil => simp at h2
      | cons c C => simp only [List.cons_append, leafV]; rw [ih B C (by simpa using h1) (by simpa using h2)]
def numb : Int → Nat → List Int
  | _, 0 => []
  | a, n + 1 => a :: numb (a + 1) n
theorem numb_length (a : Int) (n : Nat) : (numb a n).length = n := by
  induction n generalizing a with
  | zero => rfl
  | succ n ih => simp [numb, ih]
theorem numb_at (a : Int) (n k : Nat) (h : k < n) : (numb a n).getD k 0 = a + k := by
  induction n generalizing a k with
  | zero => omega
  | succ n ih =>
    cases k with
    | zero => simp [numb]
    | succ k => simp only [numb, List.getD_cons_succ]; rw [ih (a + 1) k (by omega)]; omega
theorem spanV_leafV (a : Int) (s : List (Int × Int)) : spanV a s = leafV (numb a s.length) (s.map Prod.fst) (s.map Prod.snd) := by
  induction s generalizing a with
  | nil => simp [spanV, leafV, numb]
  | cons x r ih => simp only [spanV, List.length_cons, numb, List.map_cons, leafV, ih]

/-- What ZZReadLogical hands back of the spans. -/
def zzN (c : List (Int × Int) × Bool) (LN : List Int) (number : Int) : List Int := if c.2 = true then LN ++ numb number c.1.length else []
def zzF (c : List (Int × Int) × Bool) (LF : List Int) : List Int := if c.2 = true then LF ++ c.1.map Prod.fst else []
def zzL (c : List (Int × Int) × Bool) (LL : List Int) : List Int := if c.2 = true then LL ++ c.1.map Prod.snd else []

/-- The slice that readLogical hands back, read by elements. -/
def OutRow (w : World) (rv : Value) (N F L : List Int) : Prop :=
  ∃ ra cap, rv = .slice ra N.length cap ∧ F.length = N.length ∧ L.length = N.length ∧
    (N.length = 0 ∨ ∃ g, ra = some ⟨g, 0, none⟩ ∧ g < w.heap.size ∧ ∀ k, k < N.length → w.cell? ⟨g, k * 3, none⟩ = some (.int .i64 (N.getD k 0)) ∧ w.cell? ⟨g, k * 3 + 1, none⟩ = some (.int .i64 (F.getD k 0)) ∧ w.cell? ⟨g, k * 3 + 2, none⟩ = some (.int .i64 (L.getD k 0)))

theorem outRow_of {w' : World} {LN LF LL : List Int} {number : Int} {c : List (Int × Int) × Bool} {rv re : Value} (e2 : LF.length = LN.length) (e3 : LL.length = LN.length)
    (hok : c.2 = true → re = .nilIface ∧ w'.ownsRow 0 32 3 rv (LN.length + c.1.length) (leafV LN LF LL ++ spanV number c.1))
    (hbad : c.2 = false → rv = .slice none 0 0 ∧ ∃ T p, re = .iface T (.pointer (some p))) : OutRow w' rv (zzN c LN number) (zzF c LF) (zzL c LL) := by
  by_cases hc : c.2 = true
  · have l1 : (LN ++ numb number c.1.length).length = LN.length + c.1.length := by simp [numb_length]
    have l2 : (LF ++ c.1.map Prod.fst).length = LN.length + c.1.length := by simp [e2]
    have l3 : (LL ++ c.1.map Prod.snd).length = LN.length + c.1.length := by simp [e3]
    have ho := (hok hc).2
    rw [spanV_leafV, ← leafV_append _ _ _ _ _ _ e2 e3] at ho
    simp only [OutRow, zzN, zzF, zzL, if_pos hc]
    rw [l1, l2, l3]
    rcases ho.2 with ⟨rfl, h0⟩ | ⟨g, cap, cur, rfl, _, hg, _, _, _, htake⟩
    · exact ⟨none, 0, by rw [h0], rfl, rfl, .inl h0⟩
    · refine ⟨_, cap, rfl, rfl, rfl, .inr ⟨g, rfl, (Array.getElem?_eq_some_iff.1 hg).1, fun k hk => ?_⟩⟩
      have hat := leafV_at (LN ++ numb number c.1.length) (LF ++ c.1.map Prod.fst) (LL ++ c.1.map Prod.snd) (by omega) (by omega) k (by omega)
      have hcell : ∀ j, j < (LN.length + c.1.length) * 3 → w'.cell? ⟨g, j, none⟩ = (leafV (LN ++ numb number c.1.length) (LF ++ c.1.map Prod.fst) (LL ++ c.1.map Prod.snd))[j]? := by
        intro j hj
        rw [cell_of_row w' g j _ _ _ hg, ← htake, List.getElem?_take, if_pos hj]
        simp
      exact ⟨(hcell _ (by omega)).trans hat.1, (hcell _ (by omega)).trans hat.2.1, (hcell _ (by omega)).trans hat.2.2⟩
  · have hc' : c.2 = false := by simpa using hc
    simp only [OutRow, zzN, zzF, zzL, if_neg hc]
    exact ⟨none, 0, (hbad hc').1, trivial, trivial, .inl rfl⟩
end Go.Proofs.Qxb6616795aFmt
