/-
  zzClockState and the bounds on bytes: what their 'true' says.
-/
import Derived.Test.Qxb6616830aUtf
namespace Go.Proofs.Qxb6616830a
open Go.RowKit

/-- A slice of strings, read by elements. -/
def StrAt (w : World) (a : Option Addr) (n : Nat) (nm : Nat → ByteArray) : Prop := n = 0 ∨ ∃ b, a = some ⟨b, 0, none⟩ ∧ ∀ k, k < n → w.cell? ⟨b, k, none⟩ = some (.string (nm k))
/-- A slice of uint64, read by elements. -/
def CntAt (w : World) (a : Option Addr) (n : Nat) (cn : Nat → Int) : Prop := n = 0 ∨ ∃ b, a = some ⟨b, 0, none⟩ ∧ ∀ k, k < n → w.cell? ⟨b, k, none⟩ = some (.int .u64 (cn k))
def lessB (a b : ByteArray) : Bool := Op.bytesLess a.toList b.toList
/-- What the package keeps of a clock's entries. -/
def Good (n : Nat) (nm : Nat → ByteArray) (cn : Nat → Int) : Prop := ∀ k, k < n → cn k ≠ 0 ∧ (0 < k → lessB (nm (k - 1)) (nm k) = true)

set_option maxRecDepth 100000 in
set_option maxHeartbeats 2000000 in
theorem state_any (a b : Option Addr) (n m c1 c2 : Nat) (nm : Nat → ByteArray) (cn : Nat → Int) (w : World) (hn : n ≤ 1048576) (hm : m ≤ 1048576) (ha : StrAt w a n nm) (hb : CntAt w b m cn) (hs : ∀ k, k < n → (nm k).size ≤ 1048576) :
    Calls Try.prog 6 #[.slice a n c1, .slice b m c2] w fun e w' => (∃ r, e = .returned (.bool r) ∧ (r = true → n = m ∧ Good n nm cn)) ∧ ∃ d, w' = w.drewN d := by
  have HA := hide ha
  have HB := hide hb
  have HSZ := hide hs
  clear ha hb hs
  by_cases hnm : n = m
  · subst hnm
    go_enter Try.func6, Try.ntmps6
    go_wp2
    go_loopw [5] (fun t wr => ∃ k : Nat, k ≤ n ∧ t = .int .i64 k ∧ Good k nm cn ∧ ∃ d, wr = w.drewN d) (fun t _ => n - (intOf t).toNat)
    case atStart => exact ⟨0, by omega, rfl, fun k hk => absurd hk (by omega), 0, rfl⟩
    case round =>
      obtain ⟨k, hk, rfl, hG, d, rfl⟩ := hrel
      have HG := hide hG
      clear hG
      by_cases hlt : k < n
      · obtain ⟨b1, rfl, h1⟩ : ∃ b1, a = some ⟨b1, 0, none⟩ ∧ ∀ k, k < n → w.cell? ⟨b1, k, none⟩ = some (.string (nm k)) := by
          rcases HA.out with h | h
          · omega
          · exact h
        obtain ⟨b2, rfl, h2⟩ : ∃ b2, b = some ⟨b2, 0, none⟩ ∧ ∀ k, k < n → w.cell? ⟨b2, k, none⟩ = some (.int .u64 (cn k)) := by
          rcases HB.out with h | h
          · omega
          · exact h
        have e1 := h1 k hlt
        have e2 := h2 k hlt
        obtain ⟨x, hx⟩ : ∃ x, nm k = x := ⟨_, rfl⟩
        obtain ⟨c, hc⟩ : ∃ c, cn k = c := ⟨_, rfl⟩
        rw [hx] at e1
        rw [hc] at e2
        have hxs : x.size ≤ 1048576 := by rw [← hx]; exact HSZ.out k hlt
        have i1 : (k : Int) < (n : Int) := by omega
        have HC := hide hc
        have HX := hide hx
        have H1 := hide h1
        clear hc hx h1 h2
        go_wp2_with (go_at_call 7; refine (name_any x hxs _).mono ?_)
        rintro e w2 ⟨⟨r, rfl⟩, m2, rfl⟩
        by_cases hr : r = true
        · subst hr
          by_cases hc0 : c = 0
          · subst hc0
            go_wp2
            go_ret
            exact ⟨⟨_, rfl, fun h => by simp at h⟩, _, rfl⟩
          · have hcb : (c == 0) = false := by simpa using hc0
            by_cases hk0 : k = 0
            · subst hk0
              go_wp2
              go_quiet (fail)
              go_wp2
              go_roundw
              case rel =>
                refine ⟨1, by omega, by go_num, ?_, _, by first | rfl | rw [World.drewN_drewN]⟩
                intro j hj
                obtain rfl : j = 0 := by omega
                exact ⟨by rw [HC.out]; exact hc0, fun h => absurd h (by omega)⟩
              case measure => simp [intOf]; omega
            · have e3 := H1.out (k - 1) (by omega)
              obtain ⟨y, hy⟩ : ∃ y, nm (k - 1) = y := ⟨_, rfl⟩
              rw [hy] at e3
              have HY := hide hy
              clear hy
              have i2 : (0 : Int) < (k : Int) := by omega
              have i3 : 0 < k := by omega
              have i4 : k - 1 < n := by omega
              have i5 : ((k : Int) - 1) < (n : Int) := by omega
              have i6 : (0 : Int) ≤ (k : Int) - 1 := by omega
              have i7 : ((k : Int) - 1).toNat = k - 1 := by omega
              by_cases hl : Op.bytesLess y.toList x.toList = true
              · go_wp2
                go_quiet (fail)
                go_wp2
                go_roundw
                case rel => exact ⟨k + 1, by omega, by go_num, fun j hj => by
                    rcases Nat.lt_or_ge j k with h | h
                    · exact HG.out j h
                    · obtain rfl : j = k := by omega
                      exact ⟨by rw [HC.out]; exact hc0, fun _ => by rw [HX.out, HY.out]; exact hl⟩, _, by first | rfl | rw [World.drewN_drewN]⟩
                case measure => simp [intOf]; omega
              · have hl' : Op.bytesLess y.toList x.toList = false := by simpa using hl
                clear hl
                go_wp2
                go_quiet (fail)
                go_wp2
                go_ret
                exact ⟨⟨_, rfl, fun h => by simp at h⟩, _, by first | rfl | rw [World.drewN_drewN]⟩
        · have hr' : r = false := by simpa using hr
          subst hr'
          go_wp2
          go_ret
          exact ⟨⟨_, rfl, fun h => by simp at h⟩, _, rfl⟩
      · obtain rfl : k = n := by omega
        go_wp2
        go_ret
        exact ⟨⟨_, rfl, fun _ => by first | exact ⟨rfl, HG.out⟩ | exact ⟨trivial, HG.out⟩⟩, _, rfl⟩
  · go_enter Try.func6, Try.ntmps6
    go_wp2
    go_ret
    exact ⟨⟨_, rfl, fun h => by simp at h⟩, 0, rfl⟩

/-- What zzBytes' answer says. -/
def BytesPost (n m : Nat) (name : ByteArray) (nm : Nat → ByteArray) (e : Ending) : Prop := e = .returned (.bool false) ∨ (e = .returned (.bool true) ∧ n ≤ 1048576 ∧ m ≤ 1048576 ∧ name.size ≤ 1048576 ∧ ∀ k, k < n → (nm k).size ≤ 1048576)
theorem bp_no {n m : Nat} {name : ByteArray} {nm : Nat → ByteArray} : BytesPost n m name nm (.returned (.bool false)) := .inl rfl
theorem bp_yes {n m : Nat} {name : ByteArray} {nm : Nat → ByteArray} (h1 : n ≤ 1048576) (h2 : m ≤ 1048576) (h3 : name.size ≤ 1048576) (h4 : ∀ k, k < n → (nm k).size ≤ 1048576) : BytesPost n m name nm (.returned (.bool true)) := .inr ⟨rfl, h1, h2, h3, h4⟩

set_option maxRecDepth 100000 in
set_option maxHeartbeats 2000000 in
theorem bytes5 (a b : Option Addr) (n m c1 c2 : Nat) (t : Int) (fz : Bool) (name : ByteArray) (nm : Nat → ByteArray) (w : World) (hn : n ≤ 9223372036854775807) (hm : m ≤ 9223372036854775807) (hna : name.size ≤ 9223372036854775807) (ha : StrAt w a n nm) (hs : ∀ k, k < n → (nm k).size ≤ 9223372036854775807) :
    Calls Try.prog 5 #[.slice a n c1, .slice b m c2, .int .u32 t, .bool fz, .string name] w fun e w' => BytesPost n m name nm e ∧ w = w' := by
  have HA := hide ha
  have HSZ := hide hs
  clear ha hs
  by_cases hn1 : n ≤ 1048576
  case neg =>
    go_enter Try.func5, Try.ntmps5
    go_wp2
    go_ret
    exact ⟨bp_no, rfl⟩
  case pos =>
    go_enter Try.func5, Try.ntmps5
    go_wp2
    go_loop [11, 12] (fun z t => ∃ (k q : Nat), k ≤ n ∧ t = .int .i64 k ∧ z = .int .i64 q ∧ q ≤ 1048576 ∧ ∀ j, j < k → (nm j).size ≤ 1048576) (fun _ t => n - (intOf t).toNat)
    case atStart => exact ⟨0, n, by omega, rfl, rfl, by omega, fun j hj => absurd hj (by omega)⟩
    case round =>
      obtain ⟨k, q, hk, rfl, rfl, hq, hG⟩ := hrel
      have HG := hide hG
      clear hG
      by_cases hlt : k < n
      · obtain ⟨b1, rfl, h1⟩ : ∃ b1, a = some ⟨b1, 0, none⟩ ∧ ∀ k, k < n → w.cell? ⟨b1, k, none⟩ = some (.string (nm k)) := by
          rcases HA.out with h | h
          · omega
          · exact h
        have e1 := h1 k hlt
        have hxs := HSZ.out k hlt
        obtain ⟨x, hx⟩ : ∃ x, nm k = x := ⟨_, rfl⟩
        rw [hx] at e1 hxs
        have i1 : (k : Int) < (n : Int) := by omega
        have HX := hide hx
        clear hx h1
        by_cases hx1 : x.size ≤ 1048576
        · by_cases hx2 : q + x.size ≤ 1048576
          · go_wp2
            go_round
            case rel =>
              refine ⟨k + 1, q + x.size, by omega, by go_num, by go_num, hx2, ?_⟩
              intro j hj
              rcases Nat.lt_or_ge j k with h | h
              · exact HG.out j h
              · obtain rfl : j = k := by omega
                rw [HX.out]; exact hx1
            case measure => simp [intOf]; omega
          · go_wp2
            go_ret
            exact ⟨bp_no, rfl⟩
        · go_wp2
          go_ret
          exact ⟨bp_no, rfl⟩
      · obtain rfl : k = n := by omega
        by_cases hm1 : m ≤ 1048576
        · by_cases hm2 : q + m ≤ 1048576
          · by_cases hm3 : name.size ≤ 1048576
            · by_cases hm4 : q + m + name.size ≤ 1048576
              · go_wp2
                go_ret
                exact ⟨bp_yes hn1 hm1 hm3 HG.out, rfl⟩
              · go_wp2
                go_ret
                exact ⟨bp_no, rfl⟩
            · go_wp2
              go_ret
              exact ⟨bp_no, rfl⟩
          · go_wp2
            go_ret
            exact ⟨bp_no, rfl⟩
        · go_wp2
          go_ret
          exact ⟨bp_no, rfl⟩

set_option maxRecDepth 100000 in
set_option maxHeartbeats 2000000 in
theorem bytes12 (a b : Option Addr) (n m c1 c2 : Nat) (t : Int) (fz : Bool) (name : ByteArray) (nm : Nat → ByteArray) (w : World) (hn : n ≤ 9223372036854775807) (hm : m ≤ 9223372036854775807) (hna : name.size ≤ 9223372036854775807) (ha : StrAt w a n nm) (hs : ∀ k, k < n → (nm k).size ≤ 9223372036854775807) :
    Calls Try.prog 12 #[.slice a n c1, .slice b m c2, .int .u32 t, .bool fz, .string name] w fun e w' => BytesPost n m name nm e ∧ w = w' := by
  have HA := hide ha
  have HSZ := hide hs
  clear ha hs
  by_cases hn1 : n ≤ 1048576
  case neg =>
    go_enter Try.func12, Try.ntmps12
    go_wp2
    go_ret
    exact ⟨bp_no, rfl⟩
  case pos =>
    go_enter Try.func12, Try.ntmps12
    go_wp2
    go_loop [11, 12] (fun z t => ∃ (k q : Nat), k ≤ n ∧ t = .int .i64 k ∧ z = .int .i64 q ∧ q ≤ 1048576 ∧ ∀ j, j < k → (nm j).size ≤ 1048576) (fun _ t => n - (intOf t).toNat)
    case atStart => exact ⟨0, n, by omega, rfl, rfl, by omega, fun j hj => absurd hj (by omega)⟩
    case round =>
      obtain ⟨k, q, hk, rfl, rfl, hq, hG⟩ := hrel
      have HG := hide hG
      clear hG
      by_cases hlt : k < n
      · obtain ⟨b1, rfl, h1⟩ : ∃ b1, a = some ⟨b1, 0, none⟩ ∧ ∀ k, k < n → w.cell? ⟨b1, k, none⟩ = some (.string (nm k)) := by
          rcases HA.out with h | h
          · omega
          · exact h
        have e1 := h1 k hlt
        have hxs := HSZ.out k hlt
        obtain ⟨x, hx⟩ : ∃ x, nm k = x := ⟨_, rfl⟩
        rw [hx] at e1 hxs
        have i1 : (k : Int) < (n : Int) := by omega
        have HX := hide hx
        clear hx h1
        by_cases hx1 : x.size ≤ 1048576
        · by_cases hx2 : q + x.size ≤ 1048576
          · go_wp2
            go_round
            case rel =>
              refine ⟨k + 1, q + x.size, by omega, by go_num, by go_num, hx2, ?_⟩
              intro j hj
              rcases Nat.lt_or_ge j k with h | h
              · exact HG.out j h
              · obtain rfl : j = k := by omega
                rw [HX.out]; exact hx1
            case measure => simp [intOf]; omega
          · go_wp2
            go_ret
            exact ⟨bp_no, rfl⟩
        · go_wp2
          go_ret
          exact ⟨bp_no, rfl⟩
      · obtain rfl : k = n := by omega
        by_cases hm1 : m ≤ 1048576
        · by_cases hm2 : q + m ≤ 1048576
          · by_cases hm3 : name.size ≤ 1048576
            · by_cases hm4 : q + m + name.size ≤ 1048576
              · go_wp2
                go_ret
                exact ⟨bp_yes hn1 hm1 hm3 HG.out, rfl⟩
              · go_wp2
                go_ret
                exact ⟨bp_no, rfl⟩
            · go_wp2
              go_ret
              exact ⟨bp_no, rfl⟩
          · go_wp2
            go_ret
            exact ⟨bp_no, rfl⟩
        · go_wp2
          go_ret
          exact ⟨bp_no, rfl⟩
end Go.Proofs.Qxb6616830a
