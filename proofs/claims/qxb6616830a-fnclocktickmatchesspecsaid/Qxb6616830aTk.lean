/-
  tick and ZZtick.
-/
import Derived.Test.Qxb6616830aAt
namespace Go.Proofs.Qxb6616830a
open Go.RowKit
set_option linter.unusedVariables false

/-- What tick leaves. -/
def TPost (B g n : Nat) (nm : Nat → ByteArray) (cn : Nat → Int) (fz : Bool) (name : ByteArray) (w : World) (e : Ending) (w' : World) : Prop :=
  e = .returned (.tuple #[]) ∧ ∃ (i : Nat) (f : Bool), Found n nm name i f ∧
    (f = true → ∃ g' c', w'.heap[B]? = some (.cells #[.slice (some ⟨g', 0, none⟩) n c', .int .u32 i, .bool false] 31 (0, 0)) ∧ Ent w' g' n nm (bump cn i) ∧ ((fz = false ∧ g' = g) ∨ (fz = true ∧ w.heap.size ≤ g'))) ∧
    (f = false → ∃ g', w'.heap[B]? = some (.cells #[.slice (some ⟨g', 0, none⟩) (n + 1) (n + 1), .int .u32 i, .bool false] 31 (0, 0)) ∧ Ent w' g' (n + 1) (ins nm i name) (ins cn i 1) ∧ w.heap.size ≤ g') ∧
    Kp (fun j => j = B ∨ (f = true ∧ fz = false ∧ j = g)) w w'

set_option maxRecDepth 100000 in
set_option maxHeartbeats 4000000 in
theorem tick_any (B g n c t : Nat) (nm : Nat → ByteArray) (cn : Nat → Int) (fz : Bool) (name : ByteArray) (w : World) (hn : n ≤ 65536) (hnc : n ≤ c) (hc : c ≤ 1048577) (ht : t ≤ 4294967295) (hA : Asc n nm) (hE : Ent w g n nm cn)
    (hB : w.heap[B]? = some (.cells #[.slice (some ⟨g, 0, none⟩) n c, .int .u32 t, .bool fz] 31 (0, 0))) (hgB : g ≠ B) (hc0 : ∀ k, k < n → 0 ≤ cn k) (hc1 : ∀ k, k < n → (nm k).toList = name.toList → cn k < 18446744073709551615) :
    Calls Try.prog 16 #[.pointer (some ⟨B, 0, none⟩), .string name] w (TPost B g n nm cn fz name w) := by
  have c0 : w.cell? ⟨B, 0, none⟩ = some (.slice (some ⟨g, 0, none⟩) n c) := (cell_of_row w _ 0 _ _ _ hB).trans rfl
  have c1 : w.cell? ⟨B, 1, none⟩ = some (.int .u32 t) := (cell_of_row w _ 1 _ _ _ hB).trans rfl
  have c2 : w.cell? ⟨B, 2, none⟩ = some (.bool fz) := (cell_of_row w _ 2 _ _ _ hB).trans rfl
  have HS := hide (search_any g n c t nm cn fz name w (by omega) ht hA hE)
  have HE := hide hE
  have HB := hide hB
  have HC := hide (And.intro hc0 hc1)
  have lB := lt_of_block hB
  clear hE hB hA hc0 hc1
  go_enter Try.func16, Try.ntmps16
  go_wp2_with (go_at_call 18; refine HS.out.mono ?_)
  rintro e w1 ⟨i, f, rfl, hF, hk⟩
  have HF := hide hF
  have HK := hide hk
  have s1 := hk.size
  have HE1 := hide (HE.out.kp hk (fun f => f))
  have HB1 := hide (hk.row HB.out (fun f => f))
  clear hk HS HE HB c0 c1 c2
  cases f with
  | true =>
    have hi : i < n ∧ (nm i).toList = name.toList := by
      rcases hF with h | h
      · exact h.2
      · cases h.1
    have HA := hide (at_found B g n c i nm cn t fz name w1 hi.1 (by omega) HE1.out HB1.out (HC.out.1 i hi.1) (HC.out.2 i hi.1 hi.2) hgB)
    clear hF
    go_wp2_with (go_at_call 19; refine HA.out.mono ?_)
    rintro e w2 ⟨g', c', rfl, hb, hE', hor, hk2⟩
    have H := hide (show TPost B g n nm cn fz name w (.returned (.tuple #[])) w2 from ⟨rfl, i, true, HF.out, fun _ => ⟨g', c', hb, hE', hor.imp id (fun h => ⟨h.1, Nat.le_trans s1 h.2⟩)⟩, fun h => (by cases h), (HK.out.mono (fun _ _ f => f.elim)).trans hk2 (fun j hj h => by
      rcases h with h | h
      · exact .inl h
      · exact .inr ⟨rfl, h.1, h.2⟩)⟩)
    clear hb hE' hor hk2 HA
    go_wp2
    go_end0
    exact H.out
  | false =>
    have hi : i ≤ n := by
      rcases hF with h | h
      · cases h.1
      · exact h.2.1
    have HA := hide (at_new B g n c i nm cn t fz name w1 hi hn hnc hc HE1.out HB1.out hgB)
    clear hF
    go_wp2_with (go_at_call 19; refine HA.out.mono ?_)
    rintro e w2 ⟨g', rfl, hb, hE', hor, hk2⟩
    have H := hide (show TPost B g n nm cn fz name w (.returned (.tuple #[])) w2 from ⟨rfl, i, false, HF.out, fun h => (by cases h), fun _ => ⟨g', hb, hE', by omega⟩, (HK.out.mono (fun _ _ f => f.elim)).trans hk2 (fun j hj h => .inl h)⟩)
    clear hb hE' hor hk2 HA
    go_wp2
    go_end0
    exact H.out

theorem zztick_any (B g n c t : Nat) (nm : Nat → ByteArray) (cn : Nat → Int) (fz : Bool) (name : ByteArray) (w : World) (hn : n ≤ 65536) (hnc : n ≤ c) (hc : c ≤ 1048577) (ht : t ≤ 4294967295) (hA : Asc n nm) (hE : Ent w g n nm cn)
    (hB : w.heap[B]? = some (.cells #[.slice (some ⟨g, 0, none⟩) n c, .int .u32 t, .bool fz] 31 (0, 0))) (hgB : g ≠ B) (hc0 : ∀ k, k < n → 0 ≤ cn k) (hc1 : ∀ k, k < n → (nm k).toList = name.toList → cn k < 18446744073709551615) :
    Calls Try.prog 9 #[.pointer (some ⟨B, 0, none⟩), .string name] w (TPost B g n nm cn fz name w) := by
  have HS := hide (tick_any B g n c t nm cn fz name w hn hnc hc ht hA hE hB hgB hc0 hc1)
  clear hA hE hB hc0 hc1
  go_enter Try.func9, Try.ntmps9
  go_wp2_with (go_at_call 16; refine HS.out.mono ?_)
  rintro e w1 ⟨rfl, h⟩
  have H := hide (show TPost B g n nm cn fz name w (.returned (.tuple #[])) w1 from ⟨rfl, h⟩)
  clear h HS
  go_wp2
  go_end0
  exact H.out
end Go.Proofs.Qxb6616830a
