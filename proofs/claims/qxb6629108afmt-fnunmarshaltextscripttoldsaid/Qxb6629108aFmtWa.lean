/-
  THE CLOSED FACTS ON fmt.Sprintf's STOP AT THIS DUMP, AND THE WALKS OF check, offered, UnmarshalText: for every answer F that fmt may give.
-/
import Derived.Test.Qxb6629108aFmtRows
import Derived.Stop.CallBack
import Derived.Stop.IfaceNil
import Derived.Stop.Texts
import Derived.WalkKit
import Derived.WalkSpells
import Derived.Laws.BytesArg
import Derived.Laws.IdiomStrings
namespace Go.Proofs.Qxb6629108aFmt
open Go.RowKit Go.Extern.Stop Go.Stop Go.Extern
set_option linter.unusedVariables false

theorem call11 (args : Array Value) (w : World) : (callFunc 11 args).run Tryf.prog w = (FmtCalls.sprintf #[9, 34] #[9] args).run Tryf.prog w :=
  run_callFunc_next Tryf.func11 (by kernel_rfl) (by kernel_rfl) (by kernel_rfl) args w
theorem guardF (name : String) (w : World) : (FmtStop.guard name).run Tryf.prog w = .ok () w := by kernel_rfl
theorem nextTurns : Extern.next FmtCalls.turnsRow = some (FmtCalls.begun #[] #[]) := by kernel_rfl
/-- The format of errorf's one use. -/
theorem fmt4 : FmtStop.printed? ⟨#[105, 115, 111, 108, 97, 116, 105, 111, 110, 32, 108, 101, 118, 101, 108, 32, 37, 115, 32, 105, 115, 32, 110, 111, 116, 32, 111, 102, 102, 101, 114, 101, 100, 59, 32, 116, 104, 101, 32, 108, 101, 118, 101, 108, 115, 32, 97, 114, 101, 32, 37, 115, 44, 32, 37, 115, 32, 97, 110, 100, 32, 37, 115]⟩ 4 = some [(0, 115, false), (1, 115, false), (2, 115, false), (3, 115, false)] := by kernel_rfl
theorem act24_115 (name : String) (x : Value) (w : World) : (FmtCalls.act name false 115 false (.iface 24 x)).run Tryf.prog w = .ok (.closed false) w := by kernel_rfl
def shape24 : List UInt8 := [12, 24, 0, 0, 0, 0, 0, 0, 0, 114, 111, 108, 108, 99, 104, 97, 105, 110, 46, 73, 115, 111, 108, 97, 116, 105, 111, 110, 76, 101, 118, 101, 108]
theorem op24_115 (name : String) (x : ByteArray) (w : World) : (FmtStop.operand name false 115 false (.iface 24 (.string x))).run Tryf.prog w = .ok (shape24, FmtStop.pack x.data.toList) w := by kernel_rfl

/-- One of the three names that are offered. -/
def Off (s : ByteArray) : Prop := s.toList = [114, 101, 97, 100, 45, 99, 111, 109, 109, 105, 116, 116, 101, 100] ∨ s.toList = [114, 101, 112, 101, 97, 116, 97, 98, 108, 101, 45, 114, 101, 97, 100] ∨ s.toList = [115, 101, 114, 105, 97, 108, 105, 122, 97, 98, 108, 101]

theorem offered_yes (s : ByteArray) (w : World) (h : Off s) : Calls Tryf.prog 7 #[.string s] w fun e w' => e = .returned (.bool true) ∧ w = w' := by
  rcases h with h | h | h
  all_goals
    go_enter Tryf.func7, Tryf.ntmps7
    go_wp2
    go_ret
    exact ⟨rfl, rfl⟩
theorem offered_no (s : ByteArray) (w : World) (h : ¬ Off s) : Calls Tryf.prog 7 #[.string s] w fun e w' => e = .returned (.bool false) ∧ w = w' := by
  have h1 : (s.toList == [114, 101, 97, 100, 45, 99, 111, 109, 109, 105, 116, 116, 101, 100]) = false := beq_false_of_ne fun e => h (.inl e)
  have h2 : (s.toList == [114, 101, 112, 101, 97, 116, 97, 98, 108, 101, 45, 114, 101, 97, 100]) = false := beq_false_of_ne fun e => h (.inr (.inl e))
  have h3 : (s.toList == [115, 101, 114, 105, 97, 108, 105, 122, 97, 98, 108, 101]) = false := beq_false_of_ne fun e => h (.inr (.inr e))
  clear h
  go_enter Tryf.func7, Tryf.ntmps7
  go_wp2
  go_ret
  exact ⟨rfl, rfl⟩
theorem check_yes (s : ByteArray) (w : World) (h : Off s) : Calls Tryf.prog 9 #[.string s] w fun e w' => e = .returned .nilIface ∧ w = w' := by
  rcases h with h | h | h
  all_goals
    go_enter Tryf.func9, Tryf.ntmps9
    go_wp2
    go_ret
    exact ⟨rfl, rfl⟩

attribute [local go_sem] call11 guardF fmt4 act24_115 op24_115

set_option maxRecDepth 100000 in
set_option maxHeartbeats 1600000 in
theorem check_no (F : Interp) (s : ByteArray) (w : World) (hF : F.answers w.tape) (h : ¬ Off s) : Calls Tryf.prog 9 #[.string s] w fun e w' => (∃ x, e = .returned (.iface 35 (.pointer (some x)))) ∧ Below w.heap.size w w' := by
  have hF' := answers_open hF
  have h1 : (s.toList == [114, 101, 97, 100, 45, 99, 111, 109, 109, 105, 116, 116, 101, 100]) = false := beq_false_of_ne fun e => h (.inl e)
  have h2 : (s.toList == [114, 101, 112, 101, 97, 116, 97, 98, 108, 101, 45, 114, 101, 97, 100]) = false := beq_false_of_ne fun e => h (.inr (.inl e))
  have h3 : (s.toList == [115, 101, 114, 105, 97, 108, 105, 122, 97, 98, 108, 101]) = false := beq_false_of_ne fun e => h (.inr (.inr e))
  clear h
  go_enter Tryf.func9, Tryf.ntmps9
  go_wp2
  apply rows_value nextTurns
  case hr =>
    go_simp
    exact ⟨rfl, rfl⟩
  case h =>
    go_wp2
    go_ret
    exact ⟨⟨_, rfl⟩, by repeat (first | exact Below.refl _ _ | apply Below.drew | refine Below.alloc ?_ (by simp) _)⟩
end Go.Proofs.Qxb6629108aFmt
