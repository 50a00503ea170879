/-
  The loop of 'readLogical': its relation, and what each way of a round does to it (no walk here).
-/
import Derived.Test.Qxb6616795aFmtPlain
import Derived.Deep.AppendLies
namespace Go.Proofs.Qxb6616795aFmt
open Go.RowKit

theorem mk512 (w : World) : (Instr.makeSlice 22 (.int .i64 512) (.int .i64 512)).run Tryf.prog w = .ok (.slice (some ⟨w.heap.size, 0, none⟩) 512 512) (w.alloc (.cells (bytesV (List.replicate 512 0)).toArray 5)) := by kernel_rfl

/-- The blocks that the call may write: the counter's and the one that the leaves lie in. -/
def RLS (nb : Nat) (lv : Value) (k : Nat) : Prop := k = nb ∨ lv.ownBlock = some k

/-- What the call leaves. -/
def RLPost (w : World) (nb : Nat) (lv : Value) (n : Nat) (xs : List Value) (number : Int) (c : List (Int × Int) × Bool) (e : Ending) (w' : World) : Prop :=
  ∃ rv re, e = .returned (.tuple #[rv, re]) ∧
    (c.2 = true → re = .nilIface ∧ w'.ownsRow 0 32 3 rv (n + c.1.length) (xs ++ spanV number c.1)) ∧
    (c.2 = false → rv = .slice none 0 0 ∧ ∃ T p, re = .iface T (.pointer (some p))) ∧
    w'.heap[nb]? = some (.cells #[.int .i64 (number + c.1.length)] 3 (0, 0)) ∧ Kp (RLS nb lv) w w'


theorem chain_far (D : List Int) (ss fst lst : Int) (f : Nat) (at_ : Int) (h : D.length < (at_ * ss).toNat + 512) : chain D ss fst lst (f + 1) at_ = ([], false) := by
  unfold chain; dsimp only; rw [if_pos h]
theorem chain_unsigned (D : List Int) (ss fst lst : Int) (f : Nat) (at_ : Int) (h : ¬ D.length < (at_ * ss).toNat + 512) (hs : signedB (recAt D (at_ * ss).toNat) = false) : chain D ss fst lst (f + 1) at_ = ([], true) := by
  unfold chain; dsimp only; rw [if_neg h, if_pos hs]
theorem chain_badlink (D : List Int) (ss fst lst : Int) (f : Nat) (at_ : Int) (h : ¬ D.length < (at_ * ss).toNat + 512) (hs : ¬ signedB (recAt D (at_ * ss).toNat) = false) (R : List Int) (hR : recAt D (at_ * ss).toNat = R) (hk : (lkOf R).used = true) (hb : wrap64 (fst + (lkOf R).sa) ≤ at_ ∨ lst < wrap64 (fst + (lkOf R).sa)) : chain D ss fst lst (f + 1) at_ = ([], false) := by
  subst hR; unfold chain; dsimp only; rw [if_neg h, if_neg hs, if_pos hk, if_pos hb]
theorem chain_link_bad (D : List Int) (ss fst lst : Int) (f : Nat) (at_ : Int) (h : ¬ D.length < (at_ * ss).toNat + 512) (hs : ¬ signedB (recAt D (at_ * ss).toNat) = false) (R : List Int) (hR : recAt D (at_ * ss).toNat = R) (hk : (lkOf R).used = true) (hb : ¬ (wrap64 (fst + (lkOf R).sa) ≤ at_ ∨ lst < wrap64 (fst + (lkOf R).sa))) (hg : (lgOf R).used = true)
    (hx : spFirst (lgOf R) at_ ≤ at_ ∨ wrap64 (fst + (lkOf R).sa) - 1 < spLast (lgOf R) at_) : chain D ss fst lst (f + 1) at_ = ([], false) := by
  subst hR; unfold chain; dsimp only; rw [if_neg h, if_neg hs, if_pos hk, if_neg hb, if_pos hg, if_pos hx]
theorem chain_link_span (D : List Int) (ss fst lst : Int) (f : Nat) (at_ : Int) (h : ¬ D.length < (at_ * ss).toNat + 512) (hs : ¬ signedB (recAt D (at_ * ss).toNat) = false) (R : List Int) (hR : recAt D (at_ * ss).toNat = R) (hk : (lkOf R).used = true) (hb : ¬ (wrap64 (fst + (lkOf R).sa) ≤ at_ ∨ lst < wrap64 (fst + (lkOf R).sa))) (hg : (lgOf R).used = true)
    (hx : ¬ (spFirst (lgOf R) at_ ≤ at_ ∨ wrap64 (fst + (lkOf R).sa) - 1 < spLast (lgOf R) at_)) :
    chain D ss fst lst (f + 1) at_ = ((spFirst (lgOf R) at_, spLast (lgOf R) at_) :: (chain D ss fst lst f (wrap64 (fst + (lkOf R).sa))).1, (chain D ss fst lst f (wrap64 (fst + (lkOf R).sa))).2) := by
  subst hR; conv => lhs; unfold chain
  dsimp only; rw [if_neg h, if_neg hs, if_pos hk, if_neg hb, if_pos hg, if_neg hx]
theorem chain_link_none (D : List Int) (ss fst lst : Int) (f : Nat) (at_ : Int) (h : ¬ D.length < (at_ * ss).toNat + 512) (hs : ¬ signedB (recAt D (at_ * ss).toNat) = false) (R : List Int) (hR : recAt D (at_ * ss).toNat = R) (hk : (lkOf R).used = true) (hb : ¬ (wrap64 (fst + (lkOf R).sa) ≤ at_ ∨ lst < wrap64 (fst + (lkOf R).sa))) (hg : ¬ (lgOf R).used = true) :
    chain D ss fst lst (f + 1) at_ = chain D ss fst lst f (wrap64 (fst + (lkOf R).sa)) := by
  subst hR; conv => lhs; unfold chain
  dsimp only; rw [if_neg h, if_neg hs, if_pos hk, if_neg hb, if_neg hg]
theorem chain_end_bad (D : List Int) (ss fst lst : Int) (f : Nat) (at_ : Int) (h : ¬ D.length < (at_ * ss).toNat + 512) (hs : ¬ signedB (recAt D (at_ * ss).toNat) = false) (R : List Int) (hR : recAt D (at_ * ss).toNat = R) (hk : ¬ (lkOf R).used = true) (hg : (lgOf R).used = true) (hx : spFirst (lgOf R) at_ ≤ at_ ∨ lst < spLast (lgOf R) at_) : chain D ss fst lst (f + 1) at_ = ([], false) := by
  subst hR; unfold chain; dsimp only; rw [if_neg h, if_neg hs, if_neg hk, if_pos hg, if_pos hx]
theorem chain_end_span (D : List Int) (ss fst lst : Int) (f : Nat) (at_ : Int) (h : ¬ D.length < (at_ * ss).toNat + 512) (hs : ¬ signedB (recAt D (at_ * ss).toNat) = false) (R : List Int) (hR : recAt D (at_ * ss).toNat = R) (hk : ¬ (lkOf R).used = true) (hg : (lgOf R).used = true) (hx : ¬ (spFirst (lgOf R) at_ ≤ at_ ∨ lst < spLast (lgOf R) at_)) :
    chain D ss fst lst (f + 1) at_ = ([(spFirst (lgOf R) at_, spLast (lgOf R) at_)], true) := by
  subst hR; unfold chain; dsimp only; rw [if_neg h, if_neg hs, if_neg hk, if_pos hg, if_neg hx]
theorem chain_end_none (D : List Int) (ss fst lst : Int) (f : Nat) (at_ : Int) (h : ¬ D.length < (at_ * ss).toNat + 512) (hs : ¬ signedB (recAt D (at_ * ss).toNat) = false) (R : List Int) (hR : recAt D (at_ * ss).toNat = R) (hk : ¬ (lkOf R).used = true) (hg : ¬ (lgOf R).used = true) : chain D ss fst lst (f + 1) at_ = ([], true) := by
  subst hR; unfold chain; dsimp only; rw [if_neg h, if_neg hs, if_neg hk, if_neg hg]

theorem own_kp {S : Nat → Prop} {a b : World} (h : Kp S a b) {e : TypeId} {size : Nat} {v : Value} {n : Nat} {xs : List Value} (ho : a.ownsRow 0 e size v n xs) (hv : ∀ k, v.ownBlock = some k → ¬ S k) : b.ownsRow 0 e size v n xs := by
  refine ⟨ho.1, ?_⟩
  rcases ho.2 with hn | ⟨g, cap, cur, rfl, hb, hg, rest⟩
  · exact .inl hn
  · exact .inr ⟨g, cap, cur, rfl, hb, h.row hg (hv g rfl), rest⟩

/-- What holds of memory at the head of every round. -/
structure LM (num fst lst number : Int) (lv : Value) (n : Nat) (xs : List Value) (nb : Nat) (w : World) (acc : List (Int × Int)) (v : Value) (wr : World) : Prop where
  rec512 : ∃ cur : List Value, cur.length = 512 ∧ wr.heap[w.heap.size + 1]? = some (.cells cur.toArray 5 (0, 0))
  box : wr.heap[w.heap.size]? = some (.cells #[.int .i64 num, .int .i64 fst, .int .i64 lst] 32 (0, 0))
  cnt : wr.heap[nb]? = some (.cells #[.int .i64 (number + acc.length)] 3 (0, 0))
  own : wr.ownsRow 0 32 3 v (n + acc.length) (xs ++ spanV number acc)
  blk : v.ownBlock = lv.ownBlock ∨ ∃ k, v.ownBlock = some k ∧ w.heap.size + 2 ≤ k
  kp : Kp (RLS nb lv) w wr
  lvlt : ∀ k, lv.ownBlock = some k → k < w.heap.size ∧ k ≠ nb
  nblt : nb < w.heap.size

theorem LM.start {num fst lst number : Int} {lv : Value} {n : Nat} {xs : List Value} {nb : Nat} {w : World} (Z : List Value) (hZ : Z.length = 512)
    (hn : w.heap[nb]? = some (.cells #[.int .i64 number] 3 (0, 0))) (hl : w.ownsRow 0 32 3 lv n xs) (snl : lv.ownBlock ≠ some nb) :
    LM num fst lst number lv n xs nb w [] lv ((w.alloc (.cells #[.int .i64 num, .int .i64 fst, .int .i64 lst] 32)).alloc (.cells Z.toArray 5)) := by
  have hk : Kp (RLS nb lv) w ((w.alloc (.cells #[.int .i64 num, .int .i64 fst, .int .i64 lst] 32)).alloc (.cells Z.toArray 5)) := ((Kp.refl _ w).alloc _).alloc _
  have hk0 : Kp (fun _ => False) w ((w.alloc (.cells #[.int .i64 num, .int .i64 fst, .int .i64 lst] 32)).alloc (.cells Z.toArray 5)) := ((Kp.refl _ w).alloc _).alloc _
  refine ⟨⟨Z, hZ, heap_alloc2_new w _ _⟩, heap_alloc2_old w _ _, ?_, ?_, .inl rfl, hk, fun k hk => ⟨(hl.lt k hk).2, fun e => snl (by rw [← e]; exact hk)⟩, (Array.getElem?_eq_some_iff.1 hn).1⟩
  · simpa using hk0.row hn (fun f => f)
  · simpa [spanV] using own_kp hk0 hl (fun _ _ f => f)

section
variable {num fst lst number : Int} {lv : Value} {n : Nat} {xs : List Value} {nb : Nat} {w : World} {acc : List (Int × Int)} {v : Value} {wr : World}

theorem LM.vblk (L : LM num fst lst number lv n xs nb w acc v wr) : ∀ k, v.ownBlock = some k → k ≠ w.heap.size ∧ k ≠ w.heap.size + 1 ∧ k ≠ nb := by
  intro k hk
  have hn := L.nblt
  rcases L.blk with h | ⟨k', h, hge⟩
  · have := L.lvlt k (by rw [← h]; exact hk)
    omega
  · rw [hk] at h
    injection h with h
    omega

/-- The round's own doings, but for the leaves and the counter: the record's block, new blocks. -/
theorem LM.kept (L : LM num fst lst number lv n xs nb w acc v wr) {w' : World} (hk : Kp (fun k => k = w.heap.size + 1) wr w') (cur : List Value) (hc : cur.length = 512)
    (hrow : w'.heap[w.heap.size + 1]? = some (.cells cur.toArray 5 (0, 0))) : LM num fst lst number lv n xs nb w acc v w' :=
  ⟨⟨cur, hc, hrow⟩, hk.row L.box (by omega), hk.row L.cnt (by have := L.nblt; omega), own_kp hk L.own (fun k e => (L.vblk k e).2.1), L.blk,
   L.kp.trans hk (fun i hi hh => by have hh' : i = w.heap.size + 1 := hh; omega), L.lvlt, L.nblt⟩

/-- New blocks alone. -/
theorem LM.more (L : LM num fst lst number lv n xs nb w acc v wr) {w' : World} (hk : Kp (fun _ => False) wr w') : LM num fst lst number lv n xs nb w acc v w' := by
  obtain ⟨cur, hc, hrow⟩ := L.rec512
  exact L.kept (hk.mono (fun _ _ f => f.elim)) cur hc (hk.row hrow (fun f => f))

/-- The append and the counter's store. -/
theorem LM.app (L : LM num fst lst number lv n xs nb w acc v wr) {w1 : World} {g cap : Nat} (s : Int × Int)
    (ho : w1.ownsRow 0 32 3 (.slice (some ⟨g, 0, none⟩) (n + acc.length + 1) cap) (n + acc.length + 1) (xs ++ spanV number acc ++ [.int .i64 (number + acc.length), .int .i64 s.1, .int .i64 s.2]))
    (hg : wr.grownBy w1 v.ownBlock) (hat : v.ownBlock = some g ∨ g = wr.heap.size) :
    LM num fst lst number lv n xs nb w (acc ++ [s]) (.slice (some ⟨g, 0, none⟩) (n + acc.length + 1) cap) (w1.setCell ⟨nb, 0, none⟩ (.int .i64 (number + acc.length + 1))) := by
  have hvb := L.vblk
  have hnb := L.nblt
  have hsz : w.heap.size + 1 < wr.heap.size := by obtain ⟨cur, _, hrow⟩ := L.rec512; exact (Array.getElem?_eq_some_iff.1 hrow).1
  have hkeep : ∀ k o, k < wr.heap.size → (∀ j, v.ownBlock = some j → k ≠ j) → wr.heap[k]? = some o → w1.heap[k]? = some o := fun k o hk hne h =>
    (hg.block k hk (fun e => hne k e.symm rfl)).trans h
  have hgn : g ≠ nb ∧ g ≠ w.heap.size ∧ g ≠ w.heap.size + 1 := by
    rcases hat with h | h
    · have := hvb g h; omega
    · omega
  obtain ⟨cur, hcur, hrow⟩ := L.rec512
  have hcnt1 := hkeep nb _ (by omega) (fun j e => fun h => (hvb j e).2.2 h.symm) L.cnt
  refine ⟨⟨cur, hcur, ?_⟩, ?_, ?_, ?_, ?_, ?_, L.lvlt, hnb⟩
  · rw [heap_setCell_other _ _ _ _ (by simp only; omega)]
    exact hkeep _ _ (by omega) (fun j e => fun h => (hvb j e).2.1 h.symm) hrow
  · rw [heap_setCell_other _ _ _ _ (by simp only; omega)]
    exact hkeep _ _ (by omega) (fun j e => fun h => (hvb j e).1 h.symm) L.box
  · rw [heap_setCell_same _ _ _ _ _ _ hcnt1]
    simp
    omega
  · rw [spanV_append]
    simp only [spanV, List.length_append, List.length_cons, List.length_nil]
    have hz : (w1.setCell ⟨nb, 0, none⟩ (.int .i64 (number + acc.length + 1))).ownsRow 0 32 3 (.slice (some ⟨g, 0, none⟩) (n + acc.length + 1) cap) (n + acc.length + 1) (xs ++ spanV number acc ++ [.int .i64 (number + acc.length), .int .i64 s.1, .int .i64 s.2]) :=
      own_kp ((Kp.refl (fun k => k = nb) w1).setCell (fun _ => rfl) _) ho (fun k e => by simp [Value.ownBlock] at e; omega)
    simpa [Nat.add_assoc, List.append_assoc] using hz
  · rcases hat with h | h
    · rcases L.blk with h' | ⟨k, h', hge⟩
      · exact .inl (by rw [← h', h]; rfl)
      · exact .inr ⟨g, rfl, by rw [h] at h'; injection h' with h'; omega⟩
    · exact .inr ⟨g, rfl, by omega⟩
  · have k1 : Kp (fun k => v.ownBlock = some k) wr w1 := ⟨hg.os, hg.tape, hg.output, hg.size, fun k hk hne => hg.block k hk (fun e => hne e.symm)⟩
    have k2 : Kp (RLS nb lv) w w1 := L.kp.trans k1 (fun i hi e => by
      rcases L.blk with h' | ⟨k, h', hge⟩
      · exact .inr (by rw [← h']; exact e)
      · rw [e] at h'; injection h' with h'; omega)
    exact k2.setCell (fun _ => .inl rfl) _

theorem RLPost.bad (L : LM num fst lst number lv n xs nb w acc v wr) {c : List (Int × Int) × Bool} (hc : c = (acc, false)) (T : TypeId) (p : Addr) :
    RLPost w nb lv n xs number c (.returned (.tuple #[.slice none 0 0, .iface T (.pointer (some p))])) wr := by
  subst hc
  exact ⟨_, _, rfl, fun h => by simp at h, fun _ => ⟨rfl, T, p, rfl⟩, L.cnt, L.kp⟩
theorem RLPost.good (L : LM num fst lst number lv n xs nb w acc v wr) {c : List (Int × Int) × Bool} (hc : c = (acc, true)) :
    RLPost w nb lv n xs number c (.returned (.tuple #[v, .nilIface])) wr := by
  subst hc
  exact ⟨_, _, rfl, fun _ => ⟨rfl, L.own⟩, fun h => by simp at h, L.cnt, L.kp⟩
end

/-- What holds of the numbers at the head of every round. -/
structure LC (D : List Int) (ss fst lst : Int) (i : Nat) (at_ : Int) (acc : List (Int × Int)) : Prop where
  tot : chain D ss fst lst 256 fst = (acc ++ (chain D ss fst lst (256 - i) at_).1, (chain D ss fst lst (256 - i) at_).2)
  ai : acc.length ≤ i
  i2 : i ≤ 256
  a0 : 0 ≤ at_
  a1 : at_ ≤ lst
theorem LC.end_ {D : List Int} {ss fst lst : Int} {i : Nat} {at_ : Int} {acc : List (Int × Int)} (L : LC D ss fst lst i at_ acc) {b : Bool} (h : chain D ss fst lst (256 - i) at_ = ([], b)) : chain D ss fst lst 256 fst = (acc, b) := by
  rw [L.tot, h]; simp
theorem LC.end_span {D : List Int} {ss fst lst : Int} {i : Nat} {at_ : Int} {acc : List (Int × Int)} (L : LC D ss fst lst i at_ acc) {b : Bool} {s : Int × Int} (h : chain D ss fst lst (256 - i) at_ = ([s], b)) : chain D ss fst lst 256 fst = (acc ++ [s], b) := by
  rw [L.tot, h]
theorem LC.next {D : List Int} {ss fst lst : Int} {i : Nat} {at_ nx : Int} {acc : List (Int × Int)} (L : LC D ss fst lst i at_ acc) (hi : i < 256) (h0 : at_ < nx) (h1 : nx ≤ lst)
    (h : chain D ss fst lst (255 - i + 1) at_ = chain D ss fst lst (255 - i) nx) : LC D ss fst lst (i + 1) nx acc := by
  have h0' := L.a0
  have ha := L.ai
  refine ⟨?_, by omega, by omega, by omega, h1⟩
  rw [L.tot, show 256 - i = 255 - i + 1 from by omega, h, show 256 - (i + 1) = 255 - i from by omega]
theorem LC.next_span {D : List Int} {ss fst lst : Int} {i : Nat} {at_ nx : Int} {acc : List (Int × Int)} {s : Int × Int} (L : LC D ss fst lst i at_ acc) (hi : i < 256) (h0 : at_ < nx) (h1 : nx ≤ lst)
    (h : chain D ss fst lst (255 - i + 1) at_ = (s :: (chain D ss fst lst (255 - i) nx).1, (chain D ss fst lst (255 - i) nx).2)) : LC D ss fst lst (i + 1) nx (acc ++ [s]) := by
  have h0' := L.a0
  have ha := L.ai
  refine ⟨?_, by simp; omega, by omega, by omega, h1⟩
  rw [L.tot, show 256 - i = 255 - i + 1 from by omega, h, show 256 - (i + 1) = 255 - i from by omega]
  simp
end Go.Proofs.Qxb6616795aFmt
