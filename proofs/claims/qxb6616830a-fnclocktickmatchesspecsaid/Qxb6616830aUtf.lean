/-
  zzCont, zzDecode, zzValidUTF8, zzValidName: they return, and write nothing (which bool they answer is never asked).
-/
import Derived.Test.Qxb6616830aKp
namespace Go.Proofs.Qxb6616830a
open Go.RowKit

def contB (b : Int) : Bool := decide (128 ≤ b) && decide (b ≤ 191)
set_option maxHeartbeats 400000 in
theorem cont_any (b : Int) (w : World) : Calls Try.prog 20 #[.int .u8 b] w fun e w' => e = .returned (.bool (contB b)) ∧ w = w' := by
  go_enter Try.func20, Try.ntmps20
  go_wp2
  all_goals
    go_ret
    refine ⟨?_, rfl⟩
    first | (simp [contB, *]; done) | (simp [contB]; omega)

set_option maxRecDepth 100000 in
set_option maxHeartbeats 4000000 in
theorem decode_any (s : ByteArray) (i : Nat) (hi : i < s.size) (hs : s.size ≤ 1048576) (w : World) :
    Calls Try.prog 17 #[.string s, .int .i64 i] w fun e w' => (∃ r k, e = .returned (.tuple #[.int .i32 r, .int .i64 k]) ∧ 0 ≤ k ∧ k ≤ 4) ∧ ∃ m, w' = w.drewN m := by
  go_enter Try.func17, Try.ntmps17
  go_wp2_with (first | (go_at_call 20; refine (cont_any _ _).mono ?_; rintro e w' ⟨rfl, rfl⟩))
  all_goals (first | (go_ret2; exact ⟨⟨_, _, rfl, by omega, by omega⟩, 0, rfl⟩) | (go_quiet (fail); go_wp2; go_ret2; exact ⟨⟨_, _, rfl, by omega, by omega⟩, _, rfl⟩))

set_option maxRecDepth 100000 in
set_option maxHeartbeats 1000000 in
theorem utf8_any (s : ByteArray) (hs : s.size ≤ 1048576) (w : World) :
    Calls Try.prog 15 #[.string s] w fun e w' => (∃ b, e = .returned (.bool b)) ∧ ∃ m, w' = w.drewN m := by
  go_enter Try.func15, Try.ntmps15
  go_wp2
  go_loopw [3] (fun t wr => ∃ k : Nat, k ≤ s.size + 4 ∧ t = .int .i64 k ∧ ∃ m, wr = w.drewN m) (fun t _ => s.size + 4 - (intOf t).toNat)
  case atStart => exact ⟨0, by omega, rfl, 0, rfl⟩
  case round =>
    obtain ⟨k, hk, rfl, m, rfl⟩ := hrel
    by_cases hlt : k < s.size
    · go_wp2_with (go_at_call 17; refine (decode_any s k hlt hs _).mono ?_)
      rintro e w2 ⟨⟨r, d, rfl, hd0, hd4⟩, m2, rfl⟩
      obtain ⟨d, rfl⟩ : ∃ n : Nat, d = n := ⟨d.toNat, by omega⟩
      by_cases hz : d = 0
      · subst hz
        go_wp2
        go_ret
        exact ⟨⟨_, rfl⟩, _, rfl⟩
      · have hd1 : (0 : Int) < (d : Int) := by omega
        go_wp2
        go_roundw
        case rel => exact ⟨k + d, by omega, by go_num, _, rfl⟩
        case measure => simp [intOf]; omega
    · go_wp2
      go_ret
      exact ⟨⟨_, rfl⟩, _, rfl⟩

set_option maxRecDepth 100000 in
set_option maxHeartbeats 1000000 in
theorem name_any (s : ByteArray) (hs : s.size ≤ 1048576) (w : World) :
    Calls Try.prog 7 #[.string s] w fun e w' => (∃ b, e = .returned (.bool b)) ∧ ∃ m, w' = w.drewN m := by
  go_enter Try.func7, Try.ntmps7
  by_cases he : s.toList.isEmpty = true
  · go_wp2
    go_ret
    exact ⟨⟨_, rfl⟩, 0, rfl⟩
  · have he' : s.toList.isEmpty = false := by simpa using he
    clear he
    go_wp2_with (go_at_call 15; refine (utf8_any s hs _).mono ?_)
    rintro e w2 ⟨⟨b, rfl⟩, m, rfl⟩
    go_wp2
    go_ret
    exact ⟨⟨_, rfl⟩, _, rfl⟩
end Go.Proofs.Qxb6616830a
