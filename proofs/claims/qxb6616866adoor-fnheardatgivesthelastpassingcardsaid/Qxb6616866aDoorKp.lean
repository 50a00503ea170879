/-
  Memory that is kept but for some blocks ('Kp'), rows that are filled from the left ('mix'), cells behind a closed name ('cv').
-/
import Derived.Test.Qxb6616866aDoorRows
import Derived.WalkKit
import Derived.WalkSpells
import Derived.WalkLawsBesides
import Derived.OpenShut
import Derived.Laws.CopyOwn
import Derived.Deep.QuietTactic
import Derived.BigQuiet
import Derived.Deep.RegionHeld3
import Derived.Deep.AppendLies
namespace Go.Proofs.Qxb6616866aDoor
open Go.RowKit

/-- w' is w with new blocks, and with writes to the blocks of S alone. -/
structure Kp (S : Nat → Prop) (w w' : World) : Prop where
  os : w'.os = w.os
  tape : w'.tape = w.tape
  output : w'.output = w.output
  size : w.heap.size ≤ w'.heap.size
  block : ∀ k, k < w.heap.size → ¬ S k → w'.heap[k]? = w.heap[k]?

theorem Kp.refl (S : Nat → Prop) (w : World) : Kp S w w := ⟨rfl, rfl, rfl, Nat.le_refl _, fun _ _ _ => rfl⟩
theorem Kp.trans {S T : Nat → Prop} {a b c : World} (h : Kp S a b) (k : Kp T b c) (hT : ∀ i, i < a.heap.size → T i → S i) : Kp S a c :=
  ⟨k.os.trans h.os, k.tape.trans h.tape, k.output.trans h.output, Nat.le_trans h.size k.size,
   fun i hi hs => (k.block i (Nat.lt_of_lt_of_le hi h.size) (fun t => hs (hT i hi t))).trans (h.block i hi hs)⟩
theorem Kp.mono {S T : Nat → Prop} {a b : World} (h : Kp S a b) (hS : ∀ i, i < a.heap.size → S i → T i) : Kp T a b :=
  ⟨h.os, h.tape, h.output, h.size, fun i hi ht => h.block i hi (fun s => ht (hS i hi s))⟩
theorem Kp.drew {S : Nat → Prop} {a b : World} (h : Kp S a b) : Kp S a b.drew := ⟨h.os, h.tape, h.output, h.size, h.block⟩
theorem Kp.drewN {S : Nat → Prop} {a b : World} (h : Kp S a b) (n : Nat) : Kp S a (b.drewN n) := ⟨h.os, h.tape, h.output, h.size, h.block⟩
theorem Kp.alloc {S : Nat → Prop} {a b : World} (h : Kp S a b) (o : Obj) : Kp S a (b.alloc o) :=
  ⟨h.os, h.tape, h.output, Nat.le_trans h.size (by simp), fun i hi hs => (Below.heap_alloc _ _ _ (Nat.lt_of_lt_of_le hi h.size)).trans (h.block i hi hs)⟩
theorem Kp.setCell {S : Nat → Prop} {a b : World} (h : Kp S a b) {p : Addr} (hp : p.block < a.heap.size → S p.block) (u : Value) : Kp S a (b.setCell p u) :=
  ⟨h.os, h.tape, h.output, Nat.le_trans h.size (by simp [World.setCell]),
   fun i hi hs => (Below.heap_setCell _ _ _ _ (fun e => hs (by rw [e]; exact hp (by omega)))).trans (h.block i hi hs)⟩
theorem Kp.setRow {S : Nat → Prop} {a b : World} (h : Kp S a b) {g : Nat} (hp : g < a.heap.size → S g) (cs : Array Value) : Kp S a (b.setRow g cs) :=
  ⟨h.os, h.tape, h.output, Nat.le_trans h.size (by simp [World.setRow]),
   fun i hi hs => (setRow_other _ _ _ _ (fun e => hs (by rw [e]; exact hp (by omega)))).trans (h.block i hi hs)⟩
theorem Kp.of_below {S : Nat → Prop} {a b : World} (h : Below a.heap.size a b) : Kp S a b := ⟨h.os, h.tape, h.output, h.size, fun i hi _ => h.block i hi⟩
theorem Kp.below {S : Nat → Prop} {a b : World} {B : Nat} (h : Kp S a b) (hB : B ≤ a.heap.size) (hS : ∀ i, S i → B ≤ i) : Below B a b :=
  ⟨h.os, h.tape, h.output, h.size, fun i hi => h.block i (by omega) (fun s => by have := hS i s; omega)⟩
theorem Kp.cell {S : Nat → Prop} {a b : World} (h : Kp S a b) {p : Addr} {v : Value} (hc : a.cell? p = some v) (hs : ¬ S p.block) : b.cell? p = some v :=
  (World.cell?_of_block (w := a) (h.block p.block (World.block_lt_of_cell? _ _ hc) hs)).trans hc
theorem Kp.row {S : Nat → Prop} {a b : World} (h : Kp S a b) {g : Nat} {o : Obj} (hc : a.heap[g]? = some o) (hs : ¬ S g) : b.heap[g]? = some o :=
  (h.block g (Array.getElem?_eq_some_iff.1 hc).1 hs).trans hc

theorem hide {p : Prop} (h : p) : Hid p := h

/-- What the cell at a place holds: a name that the walk doesn't lay open. -/
def cv (w : World) (b j : Nat) : Value := (w.cell? ⟨b, j, none⟩).getD undef
theorem cvAll {w : World} {b : Nat} {X : List Value} {t : TypeId} (h : w.heap[b]? = some (.cells X.toArray t (0, 0))) : ∀ j, j < X.length → w.cell? ⟨b, j, none⟩ = some (cv w b j) := by
  intro j hj
  have e := cell_of_row w b j _ _ _ h
  simp only [cv, e]
  simp [hj]
theorem cvSet {w : World} {b : Nat} {N : Nat} (i : Nat) (v : Value) (h : ∀ j, j < N → w.cell? ⟨b, j, none⟩ = some (cv w b j)) : ∀ j, j < N → (w.setCell ⟨b, i, none⟩ v).cell? ⟨b, j, none⟩ = some (cv (w.setCell ⟨b, i, none⟩ v) b j) := by
  intro j hj
  obtain ⟨v', hv⟩ := cell?_setCell_some (w := w) (p := ⟨b, i, none⟩) (x := v) (q := ⟨b, j, none⟩) (v := cv w b j) (h j hj)
  simp only [cv, hv]
  rfl
theorem bcell {W w1 : World} (hb : Below W.heap.size W w1) : (∀ b o, b < W.heap.size → w1.cell? ⟨b, o, none⟩ = W.cell? ⟨b, o, none⟩) ∧ (∀ b o, b < W.heap.size → w1.frozen? ⟨b, o, none⟩ = W.frozen? ⟨b, o, none⟩) :=
  ⟨fun b o h => hb.cell (p := ⟨b, o, none⟩) h, fun b o h => hb.frozen (p := ⟨b, o, none⟩) h⟩

theorem own_kp {S : Nat → Prop} {a b : World} (h : Kp S a b) {e : TypeId} {size : Nat} {v : Value} {n : Nat} {xs : List Value} (ho : a.ownsRow 0 e size v n xs) (hv : ∀ k, v.ownBlock = some k → ¬ S k) : b.ownsRow 0 e size v n xs := by
  refine ⟨ho.1, ?_⟩
  rcases ho.2 with hn | ⟨g, cap, cur, rfl, hb, hg, rest⟩
  · exact .inl hn
  · exact .inr ⟨g, cap, cur, rfl, hb, h.row hg (hv g rfl), rest⟩

/-- A row of which the first k cells are those of X, the others those of Z. -/
def mix (X Z : List Value) (k : Nat) : List Value := X.take k ++ Z.drop k
theorem mix_length (X Z : List Value) (h : X.length = Z.length) (k : Nat) : (mix X Z k).length = Z.length := by simp [mix]; omega
theorem mix_zero (X Z : List Value) : mix X Z 0 = Z := by simp [mix]
theorem mix_all (X Z : List Value) (h : X.length = Z.length) : mix X Z X.length = X := by simp only [mix, List.take_length]; rw [List.drop_of_length_le (by omega), List.append_nil]
theorem mix_set (X Z : List Value) (h : X.length = Z.length) (k : Nat) (v : Value) (hv : X[k]? = some v) : (mix X Z k).toArray.setIfInBounds k v = (mix X Z (k + 1)).toArray := by
  have hk : k < X.length := (List.getElem?_eq_some_iff.1 hv).1
  apply Array.ext'
  simp only [Array.toList_setIfInBounds, mix]
  apply List.ext_getElem?
  intro j
  simp only [List.getElem?_set, List.getElem?_append, List.length_append, List.length_take, List.length_drop, List.getElem?_take, List.getElem?_drop]
  by_cases e : k = j
  · subst e
    rw [if_pos rfl, if_pos (by omega), if_pos (by omega), if_pos (by omega)]
    exact hv.symm
  · rw [if_neg e]
    by_cases hj : j < k
    · rw [if_pos (by omega), if_pos (by omega), if_pos (by omega), if_pos (by omega)]
    · rw [if_neg (by omega), if_neg (by omega)]
      congr 1
      omega

def dropS : Nat → Code → Code
  | 0, c => c
  | n + 1, .seq _ b => dropS n b
  | _, c => c
def headS : Code → Code
  | .seq a _ => a
  | c => c

end Go.Proofs.Qxb6616866aDoor
