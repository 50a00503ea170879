/-
  fmt's stops in this program: the closed facts (by the kernel), and the contracts of 'untrusted' and of fmt.Errorf as they are used: whatever the text, the answer is an error that is not nil, and nothing that was there has turned.
-/
import Derived.Test.Qxb6616795aFmtRows
import Derived.Stop.CallBack
import Derived.Stop.IfaceNil
import Derived.Stop.Texts
import Derived.WalkKit
import Derived.WalkSpells
import Derived.WalkLawsBesides
import GoSem.ClaimData
namespace Go.Proofs.Qxb6616795aFmt
open Go.RowKit Go.Extern.Stop Go.Stop Go.Extern

@[go_sem] theorem call18 (args : Array Value) (w : World) : (callFunc 18 args).run Tryf.prog w = ((FmtStop.errorf #[9, 58] #[27] args).run Tryf.prog w).andThen fun v w' => .ok (.value v) w' :=
  run_callFunc_extern Tryf.func18 (by kernel_rfl) (by kernel_rfl) (by kernel_rfl) (by kernel_rfl) args w
@[go_sem] theorem call17 (args : Array Value) (w : World) : (callFunc 17 args).run Tryf.prog w = (FmtCalls.sprintf #[9, 58] #[9] args).run Tryf.prog w :=
  run_callFunc_next Tryf.func17 (by kernel_rfl) (by kernel_rfl) (by kernel_rfl) args w
@[go_sem] theorem guard' (name : String) (w : World) : (FmtStop.guard name).run Tryf.prog w = .ok () w := by kernel_rfl
theorem nextTurns : Extern.next FmtCalls.turnsRow = some (FmtCalls.begun #[] #[]) := by kernel_rfl
theorem nextReturned : Extern.next FmtCalls.returnedRow = some (FmtCalls.returned #[] #[]) := by kernel_rfl
def fmtU : ByteArray := ⟨#[37, 115, 32, 112, 97, 114, 116, 105, 116, 105, 111, 110, 32, 116, 97, 98, 108, 101, 32, 99, 97, 110, 110, 111, 116, 32, 98, 101, 32, 116, 114, 117, 115, 116, 101, 100, 58, 32, 37, 115]⟩
@[go_sem] theorem fmtUr (w : World) : (FmtDoors.printed ⟨#[37, 115, 32, 112, 97, 114, 116, 105, 116, 105, 111, 110, 32, 116, 97, 98, 108, 101, 32, 99, 97, 110, 110, 111, 116, 32, 98, 101, 32, 116, 114, 117, 115, 116, 101, 100, 58, 32, 37, 115]⟩ 2).run Tryf.prog w = .ok [(0, 115, false), (1, 115, false)] w := by kernel_rfl
@[go_sem] theorem fmtRr (w : World) : (FmtDoors.printed ⟨#[114, 101, 97, 100, 32, 97, 116, 32, 111, 102, 102, 115, 101, 116, 32, 37, 100, 58, 32, 37, 119]⟩ 2).run Tryf.prog w = .ok [(0, 100, false), (1, 119, false)] w := by kernel_rfl
def shape9 : List UInt8 := [12, 6, 0, 0, 0, 0, 0, 0, 0, 115, 116, 114, 105, 110, 103]
def shape3 : List UInt8 := [5, 3, 0, 0, 0, 0, 0, 0, 0, 105, 110, 116]
def shape2 : List UInt8 := [5, 5, 0, 0, 0, 0, 0, 0, 0, 105, 110, 116, 54, 52]
@[go_sem] theorem act3_100 (name : String) (x : Value) (w : World) : (FmtCalls.act name false 100 false (.iface 3 x)).run Tryf.prog w = .ok (.closed false) w := by kernel_rfl
@[go_sem] theorem act2_100 (name : String) (x : Value) (w : World) : (FmtCalls.act name false 100 false (.iface 2 x)).run Tryf.prog w = .ok (.closed false) w := by kernel_rfl
@[go_sem] theorem op3_100 (name : String) (x : Int) (w : World) : (FmtStop.operand name false 100 false (.iface 3 (.int .i64 x))).run Tryf.prog w = .ok (shape3, Go.Extern.Stop.digits 8 (x % 2 ^ 64).toNat) w := by kernel_rfl
@[go_sem] theorem op2_100 (name : String) (x : Int) (w : World) : (FmtStop.operand name false 100 false (.iface 2 (.int .i64 x))).run Tryf.prog w = .ok (shape2, Go.Extern.Stop.digits 8 (x % 2 ^ 64).toNat) w := by kernel_rfl
@[go_sem] theorem op2_100w (name : String) (x : Int) (w : World) : (FmtStop.operand name true 100 false (.iface 2 (.int .i64 x))).run Tryf.prog w = .ok (shape2, Go.Extern.Stop.digits 8 (x % 2 ^ 64).toNat) w := by kernel_rfl
@[go_sem] theorem op9_115w (name : String) (x : ByteArray) (w : World) : (FmtStop.operand name true 115 false (.iface 9 (.string x))).run Tryf.prog w = .ok (shape9, FmtStop.pack x.data.toList) w := by kernel_rfl
@[go_sem] theorem ptr63 (w : World) : (FmtStop.ptrTo "errors.errorString").run Tryf.prog w = .ok 63 w := by kernel_rfl
@[go_sem] theorem elem63 (w : World) : (elemOf 63).run Tryf.prog w = .ok 65 w := by kernel_rfl
@[go_sem] theorem isError63 (w : World) : (FmtDoors.textMethod 63 "Error").run Tryf.prog w = .ok true w := by kernel_rfl
@[go_sem] theorem ptr61 (w : World) : (FmtStop.ptrTo "fmt.wrapError").run Tryf.prog w = .ok 61 w := by kernel_rfl
def starES : String := String.singleton (Char.ofNat 42) ++ "errors.errorString"
def plain63 : List UInt8 := 14 :: FmtStop.pack starES.toUTF8.data.toList
theorem opPlain63_119w (name : String) (a : Addr) (s : ByteArray) (w : World) (hc : w.cell? a = some (.string s)) :
    (FmtStop.operand name true 119 false (.iface 63 (.pointer (some a)))).run Tryf.prog w = .ok (plain63, s.data.toList) w := by
  have h1 : (typeStr 63).run Tryf.prog w = .ok starES w := by kernel_rfl
  have d2 : Tryf.t63.desc = .pointer 65 := rfl
  have d3 : Tryf.t65.desc = .named "errors.errorString" 64 := rfl
  simp [FmtStop.operand, h1, d2, d3, run_load, hc, plain63]

set_option maxRecDepth 100000 in
set_option maxHeartbeats 800000 in
theorem errorf_ss (s1 s2 : ByteArray) (b : Nat) (w : World) (c0 : w.cell? ⟨b, 0, none⟩ = some (.iface 9 (.string s1))) (c1 : w.cell? ⟨b, 1, none⟩ = some (.iface 9 (.string s2))) :
    Calls Tryf.prog 15 #[.string ⟨#[37, 115, 32, 112, 97, 114, 116, 105, 116, 105, 111, 110, 32, 116, 97, 98, 108, 101, 32, 99, 97, 110, 110, 111, 116, 32, 98, 101, 32, 116, 114, 117, 115, 116, 101, 100, 58, 32, 37, 115]⟩, .slice (some ⟨b, 0, none⟩) 2 2] w fun e w' => (∃ N, e = .returned (.iface 63 (.pointer (some N)))) ∧ Below w.heap.size w w' := by
  go_enter Tryf.func15, Tryf.ntmps15
  go_wp2
  go_ret
  exact ⟨⟨_, rfl⟩, ((Below.refl _ _).alloc (Nat.le_refl _) _).drew⟩

@[go_sem] theorem elem61 (w : World) : (elemOf 61).run Tryf.prog w = .ok 83 w := by kernel_rfl

set_option maxRecDepth 100000 in
set_option maxHeartbeats 800000 in
theorem errorf_dw (x : Int) (a : Addr) (s : ByteArray) (b : Nat) (w : World) (c0 : w.cell? ⟨b, 0, none⟩ = some (.iface 2 (.int .i64 x))) (c1 : w.cell? ⟨b, 1, none⟩ = some (.iface 63 (.pointer (some a)))) (c2 : w.cell? a = some (.string s)) :
    Calls Tryf.prog 15 #[.string ⟨#[114, 101, 97, 100, 32, 97, 116, 32, 111, 102, 102, 115, 101, 116, 32, 37, 100, 58, 32, 37, 119]⟩, .slice (some ⟨b, 0, none⟩) 2 2] w fun e w' => (∃ N, e = .returned (.iface 61 (.pointer (some N)))) ∧ Below w.heap.size w w' := by
  have hop := opPlain63_119w "fmt.errorf" a s w c2
  go_enter Tryf.func15, Tryf.ntmps15
  go_wp2
  go_ret
  exact ⟨⟨_, rfl⟩, ((Below.refl _ _).alloc (Nat.le_refl _) _).drew⟩

set_option maxRecDepth 100000 in
set_option maxHeartbeats 800000 in
theorem untr5 (f : ByteArray) (T0 T1 T2 : TypeId) (h0 : T0 = 2 ∧ T1 = 2 ∧ T2 = 3 ∨ T0 = 3 ∧ T1 = 2 ∧ T2 = 2) (x0 x1 x2 x3 x4 : Int) (b : Nat) (w : World)
    (hp : FmtStop.printed? f 5 = some [(0, 100, false), (1, 100, false), (2, 100, false), (3, 100, false), (4, 100, false)])
    (c0 : w.cell? ⟨b, 0, none⟩ = some (.iface T0 (.int .i64 x0))) (c1 : w.cell? ⟨b, 1, none⟩ = some (.iface T1 (.int .i64 x1))) (c2 : w.cell? ⟨b, 2, none⟩ = some (.iface T2 (.int .i64 x2)))
    (c3 : w.cell? ⟨b, 3, none⟩ = some (.iface 2 (.int .i64 x3))) (c4 : w.cell? ⟨b, 4, none⟩ = some (.iface 2 (.int .i64 x4))) :
    Calls Tryf.prog 13 #[.string ⟨#[77, 66, 82]⟩, .string f, .slice (some ⟨b, 0, none⟩) 5 5] w fun e w' => (∃ N, e = .returned (.iface 63 (.pointer (some N)))) ∧ Below w.heap.size w w' := by
  rcases h0 with ⟨rfl, rfl, rfl⟩ | ⟨rfl, rfl, rfl⟩
  all_goals
    go_enter Tryf.func13, Tryf.ntmps13
    go_wp2
    apply rows_value nextTurns
    case hr =>
      go_simp
      exact ⟨rfl, rfl⟩
    case h =>
      generalize FmtStop.textOf _ = tx
      go_wp2_with (go_at_call 15; refine (errorf_ss ⟨#[77, 66, 82]⟩ tx _ _ ?c0 ?c1).mono ?_)
      case c0 => go_simp
      case c1 => go_simp
      rintro e w' ⟨⟨N, rfl⟩, hb⟩
      go_wp2
      go_ret
      exact ⟨⟨_, rfl⟩, (((Below.refl _ w).alloc (Nat.le_refl _) _).drew).trans (hb.mono (by simp))⟩

set_option maxRecDepth 100000 in
set_option maxHeartbeats 800000 in
theorem untr2 (f : ByteArray) (x0 x1 : Int) (b : Nat) (w : World)
    (hp : FmtStop.printed? f 2 = some [(0, 100, false), (1, 100, false)])
    (c0 : w.cell? ⟨b, 0, none⟩ = some (.iface 3 (.int .i64 x0))) (c1 : w.cell? ⟨b, 1, none⟩ = some (.iface 3 (.int .i64 x1))) :
    Calls Tryf.prog 13 #[.string ⟨#[77, 66, 82]⟩, .string f, .slice (some ⟨b, 0, none⟩) 2 2] w fun e w' => (∃ N, e = .returned (.iface 63 (.pointer (some N)))) ∧ Below w.heap.size w w' := by
  go_enter Tryf.func13, Tryf.ntmps13
  go_wp2
  apply rows_value nextTurns
  case hr =>
    go_simp
    exact ⟨rfl, rfl⟩
  case h =>
    generalize FmtStop.textOf _ = tx
    go_wp2_with (go_at_call 15; refine (errorf_ss ⟨#[77, 66, 82]⟩ tx _ _ ?c0 ?c1).mono ?_)
    case c0 => go_simp
    case c1 => go_simp
    rintro e w' ⟨⟨N, rfl⟩, hb⟩
    go_wp2
    go_ret
    exact ⟨⟨_, rfl⟩, (((Below.refl _ w).alloc (Nat.le_refl _) _).drew).trans (hb.mono (by simp))⟩
end Go.Proofs.Qxb6616795aFmt
