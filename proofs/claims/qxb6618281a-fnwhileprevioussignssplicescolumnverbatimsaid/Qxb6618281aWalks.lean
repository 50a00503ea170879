/-
  THE WALK of 'FnWhilePreviousSignsSplicesColumnVerbatim': the callee by its contract ('wps'), the loop by one relation (k at most 50, the length of the text ahead of the column), the great test of the round by six Bools that are decided ahead.
-/
import Derived.Test.Qxb6618281aRows
import Derived.WalkKit
import Derived.ProofKit
import Derived.OpenShut
import Derived.ShutString
import Derived.WalkSpells
import Derived.WalkLawsBesides
import Derived.Deep.QuietTactic
import Derived.BigQuiet
namespace Go.Proofs.Qxb6618281a
open Go.ChangeShapes Go.WideShapes Go.ChangeAt Go.RowKit

def PRE : ByteArray := ⟨#[99, 97, 115, 101, 32, 119, 104, 101, 110, 32, 112, 114, 101, 118, 105, 111, 117, 115, 95, 115, 101, 99, 114, 101, 116, 95, 101, 120, 112, 105, 114, 101, 115, 95, 97, 116, 32, 62, 32, 110, 111, 119, 40, 41, 32, 116, 104, 101, 110, 32]⟩
def SUF : ByteArray := ⟨#[32, 101, 110, 100]⟩
def wps (c : ByteArray) : ByteArray := PRE ++ c ++ SUF
theorem wps_size (c : ByteArray) : (wps c).size = c.size + 54 := by
  have h1 : PRE.size = 50 := by decide +kernel
  have h2 : SUF.size = 4 := by decide +kernel
  simp [wps, h1, h2]; omega


theorem PRE_size : PRE.size = 50 := by decide +kernel
theorem SUF_size : SUF.size = 4 := by decide +kernel
theorem ba_ext {a b : ByteArray} (h : a.data.toList = b.data.toList) : a = b := by
  cases a; cases b; simp only [ByteArray.mk.injEq]; exact Array.toList_inj.mp h
theorem pre_len : PRE.data.toList.length = 50 := by decide +kernel
theorem suf_len : SUF.data.toList.length = 4 := by decide +kernel
theorem wps_list (c : ByteArray) : (wps c).data.toList = PRE.data.toList ++ c.data.toList ++ SUF.data.toList := by
  simp [wps]
theorem ext_list (s : ByteArray) (i j : Nat) : (s.extract i j).data.toList = (s.data.toList.take j).drop i := by
  simp [List.extract, List.drop_take]
theorem at_pre (c : ByteArray) : (wps c).extract 0 50 = PRE := by
  apply ba_ext
  rw [ext_list, wps_list, List.drop_zero, List.append_assoc]
  exact List.take_left' pre_len
theorem at_mid (c : ByteArray) : (wps c).extract 50 (50 + c.size) = c := by
  apply ba_ext
  rw [ext_list, wps_list, List.take_left' (by rw [List.length_append, pre_len]; rfl)]
  exact List.drop_left' pre_len
theorem at_end (c : ByteArray) : (wps c).extract (50 + c.size) (wps c).size = SUF := by
  apply ba_ext
  rw [ext_list, List.take_of_length_le (by exact Nat.le_refl _), wps_list]
  exact List.drop_left' (by rw [List.length_append, pre_len]; rfl)
theorem slice_to (s : ByteArray) (k : Nat) (h : k ≤ s.size) (w : World) :
    (Instr.slice 9 (.string s) none (some (.int .i64 k)) none).run Try.prog w = .ok (.string (s.extract 0 k)) w := by
  rw [run_slice_string_to_if (h := Try.underlying9), if_pos (by omega)]; rfl
theorem slice_from (s : ByteArray) (k : Int) (n : Nat) (e : k = n) (h : n ≤ s.size) (w : World) :
    (Instr.slice 9 (.string s) (some (.int .i64 k)) none none).run Try.prog w = .ok (.string (s.extract n s.size)) w := by
  rw [run_slice_string_from_if (h := Try.underlying9), if_pos (by omega)]; subst e; rfl
theorem slice_mid (s : ByteArray) (k : Nat) (j : Int) (n : Nat) (e : j = n) (h0 : k ≤ n) (h : n ≤ s.size) (w : World) :
    (Instr.slice 9 (.string s) (some (.int .i64 k)) (some (.int .i64 j)) none).run Try.prog w = .ok (.string (s.extract k n)) w := by
  rw [run_slice_string (h := Try.underlying9) (h0 := by omega) (h1 := by omega) (h2 := by omega)]; subst e; rfl
theorem beq_no {a b : ByteArray} (h : ¬ (a.toList == b.toList) = true) : (a.toList == b.toList) = false := by simpa using h
theorem beq_yes {a b : ByteArray} (h : a = b) : (a.toList == b.toList) = true := by subst h; simp

set_option maxHeartbeats 400000 in
theorem wps_any (c : ByteArray) (w : World) (hc : c.size ≤ 1048576) :
    Calls Try.prog 5 #[.string c] w fun e w' => e = .returned (.string (wps c)) ∧ w' = w := by
  go_enter Try.func5, Try.ntmps5
  go_wp2
  go_ret
  exact ⟨rfl, rfl⟩

set_option maxHeartbeats 400000 in
theorem walk_long (a0 : ByteArray) (a1 : ByteArray) (w0 : a0.size ≤ maxLen) (w1 : a1.size ≤ maxLen) (w : World) (h : ¬ (a0.size ≤ 524288 ∧ a1.size ≤ 524288)) :
    Calls Try.prog 3 #[.string a0, .string a1] w fun e w' => e = .returned (.bool true) ∧ w' = w := by
  unfold maxLen at w0 w1
  go_enter Try.func3, Try.ntmps3
  go_wp2
  all_goals (go_ret; exact ⟨rfl, rfl⟩)
set_option maxRecDepth 100000 in
set_option maxHeartbeats 1000000 in
theorem walk_short (a0 : ByteArray) (a1 : ByteArray) (w : World) (h0 : a0.size ≤ 524288) (h1 : a1.size ≤ 524288) :
    Calls Try.prog 3 #[.string a0, .string a1] w fun e w' => e = .returned (.bool true) ∧ ∃ n, w' = w.drewN n := by
  have hz := wps_size
  have hz0 : (ByteArray.mk #[]).size = 0 := by rfl
  have hc2 : (a0 ++ a1).size ≤ 1048576 := by simp; omega
  go_enter Try.func3, Try.ntmps3
  go_wp2_with (first | (go_at_call 5; refine (wps_any _ _ (by first | assumption | (rw [hz0]; omega) | omega)).mono ?_; rintro e w' ⟨rfl, rfl⟩) | go_in)
  go_loopw [9] (fun i wr => ∃ k : Nat, k ≤ 50 ∧ i = .int .i64 k ∧ ∃ n, wr = w'.drewN n) (fun i _ => 50 - (intOf i).toNat)
  case atStart => exact ⟨0, by omega, rfl, 0, rfl⟩
  case round =>
    obtain ⟨k, hk, rfl, n, rfl⟩ := hrel

    obtain ⟨f1, hf1⟩ : ∃ s, s = (wps a0).extract 0 k := ⟨_, rfl⟩
    obtain ⟨e1, he1⟩ : ∃ s, s = (wps ⟨#[]⟩).extract 0 k := ⟨_, rfl⟩
    obtain ⟨f2, hf2⟩ : ∃ s, s = (wps a0).extract k (k + a0.size) := ⟨_, rfl⟩
    obtain ⟨f3, hf3⟩ : ∃ s, s = (wps a0).extract (k + a0.size) (wps a0).size := ⟨_, rfl⟩
    obtain ⟨e2, he2⟩ : ∃ s, s = (wps ⟨#[]⟩).extract k (wps ⟨#[]⟩).size := ⟨_, rfl⟩
    obtain ⟨g1, hg1⟩ : ∃ s, s = (wps (a0 ++ a1)).extract 0 k := ⟨_, rfl⟩
    obtain ⟨g2, hg2⟩ : ∃ s, s = (wps (a0 ++ a1)).extract k (k + (a0 ++ a1).size) := ⟨_, rfl⟩
    obtain ⟨g3, hg3⟩ : ∃ s, s = (wps (a0 ++ a1)).extract (k + (a0 ++ a1).size) (wps (a0 ++ a1)).size := ⟨_, rfl⟩
    have s1 : ∀ w, (Instr.slice 9 (.string (wps a0)) none (some (.int .i64 k)) none).run Try.prog w = .ok (.string f1) w := by
      intro w; rw [hf1]; exact slice_to _ _ (by rw [hz]; omega) w
    have s2 : ∀ w, (Instr.slice 9 (.string (wps ⟨#[]⟩)) none (some (.int .i64 k)) none).run Try.prog w = .ok (.string e1) w := by
      intro w; rw [he1]; exact slice_to _ _ (by rw [hz]; omega) w
    have s3 : ∀ w, (Instr.slice 9 (.string (wps a0)) (some (.int .i64 k)) (some (.int .i64 ((k : Int) + a0.size))) none).run Try.prog w = .ok (.string f2) w := by
      intro w; rw [hf2]; exact slice_mid _ _ _ _ (by omega) (by omega) (by rw [hz]; omega) w
    have s4 : ∀ w, (Instr.slice 9 (.string (wps a0)) (some (.int .i64 ((k : Int) + a0.size))) none none).run Try.prog w = .ok (.string f3) w := by
      intro w; rw [hf3]; exact slice_from _ _ _ (by omega) (by rw [hz]; omega) w
    have s5 : ∀ w, (Instr.slice 9 (.string (wps ⟨#[]⟩)) (some (.int .i64 k)) none none).run Try.prog w = .ok (.string e2) w := by
      intro w; rw [he2]; exact slice_from _ _ _ (by omega) (by rw [hz]; omega) w
    have s6 : ∀ w, (Instr.slice 9 (.string (wps (a0 ++ a1))) none (some (.int .i64 k)) none).run Try.prog w = .ok (.string g1) w := by
      intro w; rw [hg1]; exact slice_to _ _ (by rw [hz]; omega) w
    have s7 : ∀ w, (Instr.slice 9 (.string (wps (a0 ++ a1))) (some (.int .i64 k)) (some (.int .i64 ((k : Int) + (a0.size + a1.size)))) none).run Try.prog w = .ok (.string g2) w := by
      intro w; rw [hg2]; exact slice_mid _ _ _ _ (by rw [ByteArray.size_append]; omega) (by omega) (by rw [hz]; omega) w
    have s8 : ∀ w, (Instr.slice 9 (.string (wps (a0 ++ a1))) (some (.int .i64 ((k : Int) + (a0.size + a1.size)))) none none).run Try.prog w = .ok (.string g3) w := by
      intro w; rw [hg3]; exact slice_from _ _ _ (by rw [ByteArray.size_append]; omega) (by rw [hz]; omega) w
    have ht : k = 50 → f1 = e1 ∧ f2 = a0 ∧ f3 = e2 ∧ g1 = e1 ∧ g2 = a0 ++ a1 ∧ g3 = e2 := by
      intro e; subst e
      rw [hf1, he1, hf2, hf3, he2, hg1, hg2, hg3]
      have q := at_end ⟨#[]⟩
      rw [hz0] at q
      exact ⟨(at_pre _).trans (at_pre _).symm, at_mid _, (at_end _).trans q.symm, (at_pre _).trans (at_pre _).symm, at_mid _, (at_end _).trans q.symm⟩
    clear hf1 he1 hf2 hf3 he2 hg1 hg2 hg3
    by_cases b1 : (f1.toList == e1.toList) = true
    · by_cases b2 : (f2.toList == a0.toList) = true
      · by_cases b3 : (f3.toList == e2.toList) = true
        · by_cases b4 : (g1.toList == e1.toList) = true
          · by_cases b5 : (g2.toList == (a0 ++ a1).toList) = true
            · by_cases b6 : (g3.toList == e2.toList) = true
              · clear ht
                go_wp2
                go_quiet (fail)
                go_wp2
                go_ret
                exact ⟨rfl, n + nq, by first | rfl | rw [World.drewN_drewN]⟩
              · have b6' := beq_no b6
                have hk' : k < 50 := by
                  rcases Nat.lt_or_ge k 50 with h | h
                  · exact h
                  · have e : k = 50 := by omega
                    exact absurd (beq_yes ((ht e).2.2.2.2.2)) b6
                clear b6 ht
                go_wp2
                go_quiet (fail)
                go_wp2
                go_roundw
                case rel => exact ⟨k + 1, by omega, by go_num, n + nq, by first | rfl | rw [World.drewN_drewN]⟩
                case measure => simp [intOf]; omega
            · have b5' := beq_no b5
              have hk' : k < 50 := by
                rcases Nat.lt_or_ge k 50 with h | h
                · exact h
                · have e : k = 50 := by omega
                  exact absurd (beq_yes ((ht e).2.2.2.2.1)) b5
              clear b5 ht
              go_wp2
              go_quiet (fail)
              go_wp2
              go_roundw
              case rel => exact ⟨k + 1, by omega, by go_num, n + nq, by first | rfl | rw [World.drewN_drewN]⟩
              case measure => simp [intOf]; omega
          · have b4' := beq_no b4
            have hk' : k < 50 := by
              rcases Nat.lt_or_ge k 50 with h | h
              · exact h
              · have e : k = 50 := by omega
                exact absurd (beq_yes ((ht e).2.2.2.1)) b4
            clear b4 ht
            go_wp2
            go_quiet (fail)
            go_wp2
            go_roundw
            case rel => exact ⟨k + 1, by omega, by go_num, n + nq, by first | rfl | rw [World.drewN_drewN]⟩
            case measure => simp [intOf]; omega
        · have b3' := beq_no b3
          have hk' : k < 50 := by
            rcases Nat.lt_or_ge k 50 with h | h
            · exact h
            · have e : k = 50 := by omega
              exact absurd (beq_yes ((ht e).2.2.1)) b3
          clear b3 ht
          go_wp2
          go_quiet (fail)
          go_wp2
          go_roundw
          case rel => exact ⟨k + 1, by omega, by go_num, n + nq, by first | rfl | rw [World.drewN_drewN]⟩
          case measure => simp [intOf]; omega
      · have b2' := beq_no b2
        have hk' : k < 50 := by
          rcases Nat.lt_or_ge k 50 with h | h
          · exact h
          · have e : k = 50 := by omega
            exact absurd (beq_yes ((ht e).2.1)) b2
        clear b2 ht
        go_wp2
        go_quiet (fail)
        go_wp2
        go_roundw
        case rel => exact ⟨k + 1, by omega, by go_num, n + nq, by first | rfl | rw [World.drewN_drewN]⟩
        case measure => simp [intOf]; omega
    · have b1' := beq_no b1
      have hk' : k < 50 := by
        rcases Nat.lt_or_ge k 50 with h | h
        · exact h
        · have e : k = 50 := by omega
          exact absurd (beq_yes ((ht e).1)) b1
      clear b1 ht
      go_wp2
      go_quiet (fail)
      go_wp2
      go_roundw
      case rel => exact ⟨k + 1, by omega, by go_num, n + nq, by first | rfl | rw [World.drewN_drewN]⟩
      case measure => simp [intOf]; omega
end Go.Proofs.Qxb6618281a
