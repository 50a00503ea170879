/-
  The law of MatchesSpec: what the ticked clock holds, in plain words.
-/
import Derived.Test.Qxb6616830aL3b
namespace Go.Proofs.Qxb6616830a
open Go.RowKit
set_option linter.unusedVariables false

/-- What the ticked clock holds, against what was. -/
structure Got (n m i : Nat) (nm nm' : Nat → ByteArray) (cn cn' : Nat → Int) (name : ByteArray) (old at_ : Int) (sg : Nat → Nat) : Prop where
  size : m = if at_ < 0 then n + 1 else n
  pos : i < m
  nz : ∀ j, j < m → 0 < cn' j ∧ cn' j ≤ 18446744073709551615
  asc : Asc m nm'
  here : (nm' i).toList = name.toList
  cnt : cn' i = old + 1
  map : ∀ k, k < n → sg k < m ∧ nm' (sg k) = nm k ∧ cn' (sg k) = if (k : Int) = at_ then cn k + 1 else cn k
  mono : ∀ k, k + 1 < n → sg k ≤ sg (k + 1)
  top : ∀ k, k < n → (k : Int) = at_ → cn k < 18446744073709551615

theorem got_found {n i : Nat} {nm : Nat → ByteArray} {cn : Nat → Int} {name : ByteArray} {old at_ : Int} (hA : Asc n nm) (hb0 : ∀ k, k < n → 0 < cn k ∧ cn k ≤ 18446744073709551615) (hL : Loc n nm cn name old at_) (hmax : ¬ old = 18446744073709551615) (hF : Found n nm name i true) :
    Got n n i nm nm cn (bump cn i) name old at_ (fun k => k) := by
  obtain ⟨hi, ha, ho, he⟩ := hL.found hA hF
  have hbi := hb0 i hi
  refine ⟨by rw [if_neg (by omega)], hi, fun j hj => ?_, hA, he, by simp [bump, ho], fun k hk => ⟨hk, rfl, ?_⟩, fun k _ => by omega, fun k hk e => ?_⟩
  · have := hb0 j hj
    by_cases e : j = i
    · subst e; simp [bump]; omega
    · simp [bump, e]; omega
  · by_cases e : k = i
    · subst e; rw [if_pos ha.symm]; simp [bump]
    · rw [if_neg (fun h => e (by omega))]; simp [bump, e]
  · obtain rfl : k = i := by omega
    omega

theorem ins_lt {A : Type} (f : Nat → A) (i : Nat) (x : A) {k : Nat} (h : k < i) : ins f i x k = f k := by simp [ins, h]
theorem ins_eq {A : Type} (f : Nat → A) (i : Nat) (x : A) : ins f i x i = x := by simp [ins]
theorem ins_gt {A : Type} (f : Nat → A) (i : Nat) (x : A) {k : Nat} (h : i < k) : ins f i x k = f (k - 1) := by
  simp [ins, show ¬ k < i by omega, show ¬ k = i by omega]

theorem got_new {n i : Nat} {nm : Nat → ByteArray} {cn : Nat → Int} {name : ByteArray} {old at_ : Int} (hA : Asc n nm) (hb0 : ∀ k, k < n → 0 < cn k ∧ cn k ≤ 18446744073709551615) (hL : Loc n nm cn name old at_) (hF : Found n nm name i false) :
    Got n (n + 1) i nm (ins nm i name) cn (ins cn i 1) name old at_ (fun k => if k < i then k else k + 1) := by
  obtain ⟨hi, ha, ho⟩ := hL.none hF
  obtain ⟨h1, h2⟩ : (∀ k, k < i → lessB (nm k) name = true) ∧ (∀ k, i ≤ k → k < n → lessB name (nm k) = true) := by
    rcases hF with h | ⟨_, _, h1, h2⟩
    · cases h.1
    · exact ⟨h1, h2⟩
  refine ⟨by rw [if_pos (by omega)], by omega, fun j hj => ?_, fun k h0 hk => ?_, by rw [ins_eq], by rw [ins_eq]; omega, fun k hk => ?_, fun k hk => ?_, fun k hk e => by omega⟩
  · rcases Nat.lt_trichotomy j i with x | x | x
    · rw [ins_lt _ _ _ x]; exact hb0 j (by omega)
    · subst x; rw [ins_eq]; omega
    · rw [ins_gt _ _ _ x]; exact hb0 (j - 1) (by omega)
  · rcases Nat.lt_trichotomy k i with x | x | x
    · rw [ins_lt _ _ _ x, ins_lt _ _ _ (show k - 1 < i by omega)]; exact hA k h0 (by omega)
    · subst x; rw [ins_eq, ins_lt _ _ _ (show k - 1 < k by omega)]; exact h1 _ (by omega)
    · rw [ins_gt _ _ _ x]
      rcases Nat.lt_or_ge i (k - 1) with y | y
      · rw [ins_gt _ _ _ y]; exact hA (k - 1) (by omega) (by omega)
      · obtain rfl : k - 1 = i := by omega
        rw [ins_eq]; exact h2 _ (by omega) (by omega)
  · have hne : ¬ (k : Int) = at_ := by omega
    by_cases e : k < i
    · have hs : (if k < i then k else k + 1) = k := if_pos e
      show (if k < i then k else k + 1) < n + 1 ∧ ins nm i name (if k < i then k else k + 1) = nm k ∧ ins cn i 1 (if k < i then k else k + 1) = if (k : Int) = at_ then cn k + 1 else cn k
      rw [hs, ins_lt _ _ _ e, ins_lt _ _ _ e, if_neg hne]
      exact ⟨by omega, rfl, rfl⟩
    · have hs : (if k < i then k else k + 1) = k + 1 := if_neg e
      show (if k < i then k else k + 1) < n + 1 ∧ ins nm i name (if k < i then k else k + 1) = nm k ∧ ins cn i 1 (if k < i then k else k + 1) = if (k : Int) = at_ then cn k + 1 else cn k
      rw [hs, ins_gt _ _ _ (show i < k + 1 by omega), ins_gt _ _ _ (show i < k + 1 by omega), if_neg hne, Nat.add_sub_cancel]
      exact ⟨by omega, rfl, rfl⟩
  · show (if k < i then k else k + 1) ≤ (if k + 1 < i then k + 1 else k + 1 + 1)
    split <;> split <;> omega

end Go.Proofs.Qxb6616830a
