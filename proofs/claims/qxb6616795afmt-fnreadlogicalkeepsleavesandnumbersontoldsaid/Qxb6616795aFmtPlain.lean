/-
  The plain law of the chain: what 'readLogical' finds, as a function of the disk's bytes, with no Go in sight.
-/
import Derived.Test.Qxb6616795aFmtRec
namespace Go.Proofs.Qxb6616795aFmt
open Go.RowKit

structure Ent where
  st : Int
  kd : Int
  sa : Int
  sc : Int
def entA (e : Ent) : Array Value := #[.int .u8 e.st, .int .u8 e.kd, .int .i64 e.sa, .int .i64 e.sc]
def zeroEnt : Ent := ⟨0, 0, 0, 0⟩
def entOf (R : List Int) (i : Nat) : Ent := ⟨byt R (446 + 16 * i), byt R (450 + 16 * i), wrap64 (u32at R (454 + 16 * i)), wrap64 (u32at R (458 + 16 * i))⟩
def Ent.used (e : Ent) : Bool := usedB e.kd e.sc
def Ent.ext (e : Ent) : Bool := extB e.kd

/-- One round of the inner loop: (the logical partition's entry, the link). -/
def pick (p : Ent × Ent) (e : Ent) : Ent × Ent :=
  if e.used = false then p
  else if e.ext = true ∧ p.2.used = false then (p.1, e)
  else if e.ext = false ∧ p.1.used = false then (e, p.2)
  else p
def picks (R : List Int) : Nat → Ent × Ent
  | 0 => (zeroEnt, zeroEnt)
  | k + 1 => pick (picks R k) (entOf R k)
def lgOf (R : List Int) : Ent := (picks R 4).1
def lkOf (R : List Int) : Ent := (picks R 4).2
def recAt (D : List Int) (off : Nat) : List Int := (D.drop off).take 512
def spFirst (e : Ent) (at_ : Int) : Int := wrap64 (at_ + e.sa)
def spLast (e : Ent) (at_ : Int) : Int := wrap64 (wrap64 (wrap64 (at_ + e.sa) + e.sc) - 1)

/-- What the chain from 'at_' on holds: the spans that are found, and whether it ends well. -/
def chain (D : List Int) (ss fst lst : Int) : Nat → Int → List (Int × Int) × Bool
  | 0, _ => ([], false)
  | f + 1, at_ =>
    let R := recAt D (at_ * ss).toNat
    let nx := wrap64 (fst + (lkOf R).sa)
    if D.length < (at_ * ss).toNat + 512 then ([], false)
    else if signedB R = false then ([], true)
    else if (lkOf R).used = true then
      if nx ≤ at_ ∨ lst < nx then ([], false)
      else if (lgOf R).used = true then
        if spFirst (lgOf R) at_ ≤ at_ ∨ nx - 1 < spLast (lgOf R) at_ then ([], false)
        else ((spFirst (lgOf R) at_, spLast (lgOf R) at_) :: (chain D ss fst lst f nx).1, (chain D ss fst lst f nx).2)
      else chain D ss fst lst f nx
    else if (lgOf R).used = true then
      if spFirst (lgOf R) at_ ≤ at_ ∨ lst < spLast (lgOf R) at_ then ([], false)
      else ([(spFirst (lgOf R) at_, spLast (lgOf R) at_)], true)
    else ([], true)

/-- The spans as cells: numbered on from 'num'. -/
def spanV (num : Int) : List (Int × Int) → List Value
  | [] => []
  | s :: r => .int .i64 num :: .int .i64 s.1 :: .int .i64 s.2 :: spanV (num + 1) r
theorem spanV_append (num : Int) (a b : List (Int × Int)) : spanV num (a ++ b) = spanV num a ++ spanV (num + a.length) b := by
  induction a generalizing num with
  | nil => simp [spanV]
  | cons x r ih => simp only [List.cons_append, spanV, ih, List.length_cons]; congr 5; omega
theorem spanV_length (num : Int) (a : List (Int × Int)) : (spanV num a).length = a.length * 3 := by
  induction a generalizing num with
  | nil => rfl
  | cons x r ih => simp only [spanV, List.length_cons, ih]; omega
theorem recAt_length (D : List Int) (off : Nat) (h : off + 512 ≤ D.length) : (recAt D off).length = 512 := by simp [recAt]; omega
theorem chain_length (D : List Int) (ss fst lst : Int) (f : Nat) (at_ : Int) : (chain D ss fst lst f at_).1.length ≤ f := by
  induction f generalizing at_ with
  | zero => simp [chain]
  | succ f ih =>
    unfold chain
    dsimp only
    split
    · simp
    · split
      · simp
      · split
        · split
          · simp
          · split
            · split
              · simp
              · simp only [List.length_cons]; have := ih (wrap64 (fst + (lkOf (recAt D (at_ * ss).toNat)).sa)); omega
            · have := ih (wrap64 (fst + (lkOf (recAt D (at_ * ss).toNat)).sa)); omega
        · split
          · split
            · simp
            · simp
          · simp
end Go.Proofs.Qxb6616795aFmt
