/-
  The search: the order of names, sort.Search with its closure, Clock.search.
-/
import Derived.Test.Qxb6616830aClkA
namespace Go.Proofs.Qxb6616830a
open Go.RowKit
set_option linter.unusedVariables false

theorem less_irr (l : List UInt8) : Op.bytesLess l l = false := by
  induction l with
  | nil => rfl
  | cons x l ih => simp [Op.bytesLess, ih]
theorem less_cons (a b : UInt8) (x y : List UInt8) : Op.bytesLess (a :: x) (b :: y) = true ↔ a.toNat < b.toNat ∨ (a = b ∧ Op.bytesLess x y = true) := by
  simp [Op.bytesLess, UInt8.lt_iff_toNat_lt]
theorem less_trans : ∀ (x y z : List UInt8), Op.bytesLess x y = true → Op.bytesLess y z = true → Op.bytesLess x z = true
  | _, [], _, h, _ => by simp [Op.bytesLess] at h
  | _, _ :: _, [], _, h => by simp [Op.bytesLess] at h
  | [], _ :: _, _ :: _, _, _ => rfl
  | a :: x, b :: y, c :: z, h1, h2 => by
    rw [less_cons] at h1 h2 ⊢
    rcases h1 with h1 | ⟨rfl, h1⟩
    · rcases h2 with h2 | ⟨rfl, h2⟩
      · left; omega
      · left; exact h1
    · rcases h2 with h2 | ⟨rfl, h2⟩
      · left; exact h2
      · right; exact ⟨rfl, less_trans x y z h1 h2⟩
theorem less_tri : ∀ (x y : List UInt8), Op.bytesLess x y = false → Op.bytesLess y x = false → x = y
  | [], [], _, _ => rfl
  | [], _ :: _, h, _ => by simp [Op.bytesLess] at h
  | _ :: _, [], _, h => by simp [Op.bytesLess] at h
  | a :: x, b :: y, h1, h2 => by
    have g1 : ¬ (a.toNat < b.toNat ∨ (a = b ∧ Op.bytesLess x y = true)) := by rw [← less_cons, h1]; simp
    have g2 : ¬ (b.toNat < a.toNat ∨ (b = a ∧ Op.bytesLess y x = true)) := by rw [← less_cons, h2]; simp
    have e : a = b := UInt8.toNat_inj.1 (by omega)
    subst e
    have k1 : Op.bytesLess x y = false := by
      cases h : Op.bytesLess x y with
      | false => rfl
      | true => exact absurd (Or.inr ⟨rfl, h⟩) g1
    have k2 : Op.bytesLess y x = false := by
      cases h : Op.bytesLess y x with
      | false => rfl
      | true => exact absurd (Or.inr ⟨rfl, h⟩) g2
    rw [less_tri x y k1 k2]

/-- The names stand in ascending order. -/
def Asc (n : Nat) (nm : Nat → ByteArray) : Prop := ∀ k, 0 < k → k < n → lessB (nm (k - 1)) (nm k) = true
theorem Asc.lt {n : Nat} {nm : Nat → ByteArray} (h : Asc n nm) {i j : Nat} (hij : i < j) (hj : j < n) : lessB (nm i) (nm j) = true := by
  obtain ⟨d, rfl⟩ : ∃ d, j = i + d + 1 := ⟨j - i - 1, by omega⟩
  clear hij
  induction d with
  | zero => exact h (i + 0 + 1) (by omega) hj
  | succ d ih => exact less_trans _ _ _ (ih (by omega)) (h (i + (d + 1) + 1) (by omega) hj)

set_option maxRecDepth 100000 in
set_option maxHeartbeats 4000000 in
/-- The closure: is entry i's name at or past the name? -/
theorem clo_any (g n c B1 B2 i : Nat) (nm : Nat → ByteArray) (cn : Nat → Int) (t : Int) (fz : Bool) (name : ByteArray) (w : World) (hi : i < n) (hn : n ≤ 1048577) (hE : Ent w g n nm cn)
    (h1 : w.heap[B1]? = some (.cells #[.slice (some ⟨g, 0, none⟩) n c, .int .u32 t, .bool fz] 31 (0, 0))) (h2 : w.heap[B2]? = some (.cells #[.string name] 9 (0, 0))) :
    Calls Try.prog 22 #[.int .i64 i, .pointer (some ⟨B1, 0, none⟩), .pointer (some ⟨B2, 0, none⟩)] w fun e w' => e = .returned (.bool (!(lessB (nm i) name))) ∧ ∃ m, w' = w.drewN m := by
  have c0 : w.cell? ⟨B1, 0, none⟩ = some (.slice (some ⟨g, 0, none⟩) n c) := (cell_of_row w _ 0 _ _ _ h1).trans rfl
  have d0 := cell_of_one h2
  have e0 := hE.name i hi
  have i1 : (i : Int) < (n : Int) := by omega
  clear hE h1 h2
  go_enter Try.func22, Try.ntmps22
  go_wp2
  go_quiet (fail)
  go_wp2
  go_ret
  exact ⟨rfl, _, rfl⟩

/-- What sort.Search answers. -/
def SPost (n : Nat) (nm : Nat → ByteArray) (name : ByteArray) (w : World) (e : Ending) (w' : World) : Prop :=
  ∃ r : Nat, e = .returned (.int .i64 r) ∧ r ≤ n ∧ (∀ k, k < r → lessB (nm k) name = true) ∧ (∀ k, r ≤ k → k < n → lessB (nm k) name = false) ∧ ∃ m, w' = w.drewN m

set_option maxRecDepth 100000 in
set_option maxHeartbeats 4000000 in
theorem sort_any (g n c B1 B2 : Nat) (nm : Nat → ByteArray) (cn : Nat → Int) (t : Int) (fz : Bool) (name : ByteArray) (w : World) (hn : n ≤ 1048577) (hA : Asc n nm) (hE : Ent w g n nm cn)
    (h1 : w.heap[B1]? = some (.cells #[.slice (some ⟨g, 0, none⟩) n c, .int .u32 t, .bool fz] 31 (0, 0))) (h2 : w.heap[B2]? = some (.cells #[.string name] 9 (0, 0))) :
    Calls Try.prog 21 #[.int .i64 n, .func (.func 22) #[] #[.pointer (some ⟨B1, 0, none⟩), .pointer (some ⟨B2, 0, none⟩)]] w (SPost n nm name w) := by
  have HC := hide (fun (i m : Nat) (hi : i < n) => clo_any g n c B1 B2 i nm cn t fz name (w.drewN m) hi hn (hE.kp ((Kp.refl (fun _ => False) w).drewN m) (fun f => f)) h1 h2)
  have HA := hide hA
  clear hE h1 h2 hA
  go_enter Try.func21, Try.ntmps21
  go_wp2
  go_loopw [5, 6] (fun x y wr => ∃ i j : Nat, i ≤ j ∧ j ≤ n ∧ x = .int .i64 i ∧ y = .int .i64 j ∧ (∀ k, k < i → lessB (nm k) name = true) ∧ (∀ k, j ≤ k → k < n → lessB (nm k) name = false) ∧ ∃ m, wr = w.drewN m) (fun x y _ => (intOf y).toNat - (intOf x).toNat)
  case atStart => exact ⟨0, n, by omega, by omega, rfl, rfl, fun k hk => absurd hk (by omega), fun k h1 h2 => absurd h2 (by omega), 0, rfl⟩
  case round =>
    obtain ⟨i, j, hij, hj, rfl, rfl, hlo, hhi, m, rfl⟩ := hrel
    have HLO := hide hlo
    have HHI := hide hhi
    clear hlo hhi
    by_cases hlt : i < j
    · have hlt' : (i : Int) < (j : Int) := by omega
      obtain ⟨h, hh⟩ : ∃ h, (i + j) / 2 = h := ⟨_, rfl⟩
      have hh' : ((i : Int) + (j : Int)) / 2 = (h : Int) := by omega
      have hi1 : i ≤ h := by omega
      have hj1 : h < j := by omega
      have C := HC.out h m (by omega)
      clear hh
      cases hb : lessB (nm h) name with
      | true =>
        rw [hb, Bool.not_true] at C
        have HCC := hide C
        have HB := hide hb
        clear C hb
        go_wp2_with (first | (go_at_call 22; refine HCC.out.mono ?_; rintro e w1 ⟨rfl, m2, rfl⟩))
        go_roundw
        case rel =>
          refine ⟨h + 1, j, by omega, hj, by go_num, rfl, fun k hk => ?_, HHI.out, _, by first | rfl | rw [World.drewN_drewN]⟩
          rcases Nat.lt_or_ge k h with h3 | h3
          · exact less_trans _ _ _ (HA.out.lt h3 (by omega)) HB.out
          · obtain rfl : k = h := by omega
            exact HB.out
        case measure => simp [intOf]; omega
      | false =>
        rw [hb, Bool.not_false] at C
        have HCC := hide C
        have HB := hide hb
        clear C hb
        go_wp2_with (first | (go_at_call 22; refine HCC.out.mono ?_; rintro e w1 ⟨rfl, m2, rfl⟩))
        go_roundw
        case rel =>
          refine ⟨i, h, by omega, by omega, rfl, by go_num, HLO.out, fun k hk hkn => ?_, _, by first | rfl | rw [World.drewN_drewN]⟩
          rcases Nat.lt_or_ge h k with h3 | h3
          · cases hq : lessB (nm k) name with
            | false => rfl
            | true =>
              have := less_trans _ _ _ (HA.out.lt h3 hkn) hq
              have hb := HB.out
              unfold lessB at hb
              rw [this] at hb
              cases hb
          · obtain rfl : k = h := by omega
            exact HB.out
        case measure => simp [intOf]; omega
    · obtain rfl : i = j := by omega
      go_wp2
      go_ret
      exact ⟨_, rfl, hj, HLO.out, HHI.out, _, rfl⟩

/-- What Clock.search answers. -/
def Found (n : Nat) (nm : Nat → ByteArray) (name : ByteArray) (i : Nat) (f : Bool) : Prop :=
  (f = true ∧ i < n ∧ (nm i).toList = name.toList) ∨ (f = false ∧ i ≤ n ∧ (∀ k, k < i → lessB (nm k) name = true) ∧ (∀ k, i ≤ k → k < n → lessB name (nm k) = true))
def QPost (n : Nat) (nm : Nat → ByteArray) (name : ByteArray) (w : World) (e : Ending) (w' : World) : Prop :=
  ∃ (i : Nat) (f : Bool), e = .returned (.tuple #[.int .i64 i, .bool f]) ∧ Found n nm name i f ∧ Kp (fun _ => False) w w'
theorem past {n r : Nat} {nm : Nat → ByteArray} {name : ByteArray} (hA : Asc n nm) (hr : r < n) (hhi : ∀ k, r ≤ k → k < n → lessB (nm k) name = false) (hne : ¬ (nm r).toList = name.toList) : ∀ k, r ≤ k → k < n → lessB name (nm k) = true := by
  have h0 : lessB name (nm r) = true := by
    cases h : lessB name (nm r) with
    | true => rfl
    | false => exact absurd (less_tri _ _ (hhi r (Nat.le_refl _) hr) h) hne
  intro k h1 h2
  rcases Nat.lt_or_ge r k with h | h
  · exact less_trans _ _ _ h0 (hA.lt h h2)
  · obtain rfl : k = r := by omega
    exact h0

set_option maxRecDepth 100000 in
set_option maxHeartbeats 8000000 in
theorem search_any (g n c t : Nat) (nm : Nat → ByteArray) (cn : Nat → Int) (fz : Bool) (name : ByteArray) (w : World) (hn : n ≤ 1048577) (ht : t ≤ 4294967295) (hA : Asc n nm) (hE : Ent w g n nm cn) :
    Calls Try.prog 18 #[.agg #[.slice (some ⟨g, 0, none⟩) n c, .int .u32 t, .bool fz], .string name] w (QPost n nm name w) := by
  have hmf : ∀ (fn : Fn) (first cap : Array Value) (w : World), (Instr.makeFunc fn first cap).run Try.prog w = .ok (.func fn first cap) w := fun _ _ _ _ => rfl
  have HE := hide hE
  have HA := hide hA
  have lg := hE.lt
  clear hE hA
  by_cases h1 : t < n
  · have e1 := HE.out.name t h1
    have h1' : (t : Int) < (n : Int) := by omega
    obtain ⟨x, hx⟩ : ∃ x, nm t = x := ⟨_, rfl⟩
    rw [hx] at e1
    have HX := hide hx
    clear hx
    cases h2 : (x.toList == name.toList) with
    | true =>
      go_enter Try.func18, Try.ntmps18
      go_wp2
      go_quiet (fail)
      go_wp2
      go_ret2
      exact ⟨t, true, rfl, .inl ⟨rfl, h1, by rw [HX.out]; simpa using h2⟩, (((Kp.refl _ w).alloc _).alloc _).drewN _⟩
    | false =>
      go_enter Try.func18, Try.ntmps18
      go_wp2
      go_quiet (fail)
      have HB1 := hide (show (((w.alloc (.cells #[.slice (some ⟨g, 0, none⟩) n c, .int .u32 t, .bool fz] 31)).alloc (.cells #[.string name] 9)).drewN nq).heap[w.heap.size]? = _ from heap_alloc2_old w _ _)
      have HB2 := hide (show (((w.alloc (.cells #[.slice (some ⟨g, 0, none⟩) n c, .int .u32 t, .bool fz] 31)).alloc (.cells #[.string name] 9)).drewN nq).heap[w.heap.size + 1]? = _ from heap_alloc2_new w _ _)
      have HKK := hide (show Kp (fun _ => False) w (((w.alloc (.cells #[.slice (some ⟨g, 0, none⟩) n c, .int .u32 t, .bool fz] 31)).alloc (.cells #[.string name] 9)).drewN nq) from (((Kp.refl _ w).alloc _).alloc _).drewN nq)
      go_wp2_with (go_at_call 21; refine (sort_any g n c w.heap.size (w.heap.size + 1) nm cn t fz name _ hn HA.out (HE.out.kp HKK.out (fun f => f)) HB1.out HB2.out).mono ?_)
      rintro e w1 ⟨r, rfl, hr, hlo, hhi, m, rfl⟩
      have HLO := hide hlo
      have HHI := hide hhi
      clear hlo hhi
      by_cases hrn : r < n
      · have hrn' : (r : Int) < (n : Int) := by omega
        have e2 := HE.out.name r hrn
        obtain ⟨y, hy⟩ : ∃ y, nm r = y := ⟨_, rfl⟩
        rw [hy] at e2
        have HY := hide hy
        clear hy
        cases h3 : (y.toList == name.toList) with
        | true =>
          go_wp2
          go_quiet (fail)
          go_wp2
          go_ret2
          exact ⟨r, true, rfl, .inl ⟨rfl, hrn, by rw [HY.out]; simpa using h3⟩, ((((Kp.refl _ w).alloc _).alloc _).drewN _).drewN _⟩
        | false =>
          go_wp2
          go_quiet (fail)
          go_wp2
          go_ret2
          exact ⟨r, false, rfl, .inr ⟨rfl, hr, HLO.out, past HA.out hrn HHI.out (by rw [HY.out]; simpa using h3)⟩, ((((Kp.refl _ w).alloc _).alloc _).drewN _).drewN _⟩
      · obtain rfl : r = n := by omega
        go_wp2
        go_quiet (fail)
        go_wp2
        go_ret2
        exact ⟨r, false, rfl, .inr ⟨rfl, hr, HLO.out, fun k h1 h2 => absurd h2 (by omega)⟩, ((((Kp.refl _ w).alloc _).alloc _).drewN _).drewN _⟩
  · have h1' : ¬ (t : Int) < (n : Int) := by omega
    go_enter Try.func18, Try.ntmps18
    go_wp2
    go_quiet (fail)
    have HB1 := hide (show (((w.alloc (.cells #[.slice (some ⟨g, 0, none⟩) n c, .int .u32 t, .bool fz] 31)).alloc (.cells #[.string name] 9)).drewN nq).heap[w.heap.size]? = _ from heap_alloc2_old w _ _)
    have HB2 := hide (show (((w.alloc (.cells #[.slice (some ⟨g, 0, none⟩) n c, .int .u32 t, .bool fz] 31)).alloc (.cells #[.string name] 9)).drewN nq).heap[w.heap.size + 1]? = _ from heap_alloc2_new w _ _)
    have HKK := hide (show Kp (fun _ => False) w (((w.alloc (.cells #[.slice (some ⟨g, 0, none⟩) n c, .int .u32 t, .bool fz] 31)).alloc (.cells #[.string name] 9)).drewN nq) from (((Kp.refl _ w).alloc _).alloc _).drewN nq)
    go_wp2_with (go_at_call 21; refine (sort_any g n c w.heap.size (w.heap.size + 1) nm cn t fz name _ hn HA.out (HE.out.kp HKK.out (fun f => f)) HB1.out HB2.out).mono ?_)
    rintro e w1 ⟨r, rfl, hr, hlo, hhi, m, rfl⟩
    have HLO := hide hlo
    have HHI := hide hhi
    clear hlo hhi
    by_cases hrn : r < n
    · have hrn' : (r : Int) < (n : Int) := by omega
      have e2 := HE.out.name r hrn
      obtain ⟨y, hy⟩ : ∃ y, nm r = y := ⟨_, rfl⟩
      rw [hy] at e2
      have HY := hide hy
      clear hy
      cases h3 : (y.toList == name.toList) with
      | true =>
        go_wp2
        go_quiet (fail)
        go_wp2
        go_ret2
        exact ⟨r, true, rfl, .inl ⟨rfl, hrn, by rw [HY.out]; simpa using h3⟩, ((((Kp.refl _ w).alloc _).alloc _).drewN _).drewN _⟩
      | false =>
        go_wp2
        go_quiet (fail)
        go_wp2
        go_ret2
        exact ⟨r, false, rfl, .inr ⟨rfl, hr, HLO.out, past HA.out hrn HHI.out (by rw [HY.out]; simpa using h3)⟩, ((((Kp.refl _ w).alloc _).alloc _).drewN _).drewN _⟩
    · obtain rfl : r = n := by omega
      go_wp2
      go_quiet (fail)
      go_wp2
      go_ret2
      exact ⟨r, false, rfl, .inr ⟨rfl, hr, HLO.out, fun k h1 h2 => absurd h2 (by omega)⟩, ((((Kp.refl _ w).alloc _).alloc _).drewN _).drewN _⟩
end Go.Proofs.Qxb6616830a
