/-
  Seat b3462aF: isDigit (6), quoteByte (8), errorAt (7), errEnd (5): the errors' texts are left open (nothing hangs on them).
-/
import Derived.Test.YbulkbsreFmtRows
import Derived.WalkKit
import Derived.WalkSpells
import Derived.WalkLawsBesides
import Derived.Deep.QuietTactic
import Derived.BigQuiet
import Derived.Stop.CallBack
import Derived.Stop.IfaceNil
import Derived.RowKitTokens
namespace Go.Proofs.YbulkbsreFmt
open Go.RowKit Go.Extern.Stop Go.Stop Go.Extern
set_option linter.unusedVariables false

theorem hide {p : Prop} (h : p) : Hid p := h
theorem unhide {p : Prop} (h : Hid p) : p := h

theorem call9 (args : Array Value) (w : World) : (callFunc 9 args).run Ybaf.prog w = (FmtCalls.sprintf #[9, 37] #[9] args).run Ybaf.prog w :=
  run_callFunc_next Ybaf.func9 (by kernel_rfl) (by kernel_rfl) (by kernel_rfl) args w
theorem fmtGuard (name : String) (w : World) : (FmtStop.guard name).run Ybaf.prog w = .ok () w := by kernel_rfl
-- "%q", one operand
theorem fmt0 : FmtStop.printed? ⟨#[37, 113]⟩ 1 = some [(0, 113, false)] := by kernel_rfl
theorem fmt0r (w : World) : (FmtDoors.printed ⟨#[37, 113]⟩ 1).run Ybaf.prog w = .ok [(0, 113, false)] w := by kernel_rfl
-- "0x%02x", one operand
theorem fmt1 : FmtStop.printed? ⟨#[48, 120, 37, 48, 50, 120]⟩ 1 = some [(0, 120, false)] := by kernel_rfl
theorem fmt1r (w : World) : (FmtDoors.printed ⟨#[48, 120, 37, 48, 50, 120]⟩ 1).run Ybaf.prog w = .ok [(0, 120, false)] w := by kernel_rfl
def shape5 : List UInt8 := [6, 5, 0, 0, 0, 0, 0, 0, 0, 117, 105, 110, 116, 56]
def shape9 : List UInt8 := [12, 6, 0, 0, 0, 0, 0, 0, 0, 115, 116, 114, 105, 110, 103]
theorem act5_113 (name : String) (x : Value) (w : World) : (FmtCalls.act name false 113 false (.iface 5 x)).run Ybaf.prog w = .ok (.closed false) w := by kernel_rfl
theorem act5_120 (name : String) (x : Value) (w : World) : (FmtCalls.act name false 120 false (.iface 5 x)).run Ybaf.prog w = .ok (.closed false) w := by kernel_rfl
theorem act9_115 (name : String) (x : Value) (w : World) : (FmtCalls.act name false 115 false (.iface 9 x)).run Ybaf.prog w = .ok (.closed false) w := by kernel_rfl
theorem op5_113 (name : String) (x : Int) (w : World) : (FmtStop.operand name false 113 false (.iface 5 (.int .u8 x))).run Ybaf.prog w = .ok (shape5, Go.Extern.Stop.digits 8 (x % 2 ^ 64).toNat) w := by kernel_rfl
theorem op5_120 (name : String) (x : Int) (w : World) : (FmtStop.operand name false 120 false (.iface 5 (.int .u8 x))).run Ybaf.prog w = .ok (shape5, Go.Extern.Stop.digits 8 (x % 2 ^ 64).toNat) w := by kernel_rfl
theorem op9_115 (name : String) (x : ByteArray) (w : World) : (FmtStop.operand name false 115 false (.iface 9 (.string x))).run Ybaf.prog w = .ok (shape9, FmtStop.pack x.data.toList) w := by kernel_rfl

set_option maxRecDepth 100000 in
set_option maxHeartbeats 400000 in
theorem isDigit_walk (c : Int) (D : Bool) (w : World) (h0 : 0 ≤ c) (h1 : c ≤ 255) (hD : decide (48 ≤ c ∧ c ≤ 57) = D) :
    Calls Ybaf.prog 6 #[.int .u8 c] w fun e w' => e = .returned (.bool D) ∧ w' = w := by
  by_cases c1 : 48 ≤ c
  · by_cases c2 : c ≤ 57
    · obtain rfl : true = D := by rw [← hD]; simp [c1, c2]
      clear hD
      go_enter Ybaf.func6, Ybaf.ntmps6
      go_wp2_with fail
      go_ret
      exact ⟨rfl, rfl⟩
    · obtain rfl : false = D := by rw [← hD]; simp; omega
      clear hD
      go_enter Ybaf.func6, Ybaf.ntmps6
      go_wp2_with fail
      go_ret
      exact ⟨rfl, rfl⟩
  · obtain rfl : false = D := by rw [← hD]; simp; omega
    clear hD
    go_enter Ybaf.func6, Ybaf.ntmps6
    go_wp2_with fail
    go_ret
    exact ⟨rfl, rfl⟩

theorem nextTurns : Extern.next FmtCalls.turnsRow = some (FmtCalls.begun #[] #[]) := by kernel_rfl

set_option maxRecDepth 100000 in
set_option maxHeartbeats 1000000 in
theorem quote_walk (F : Interp) (c : Int) (w : World) (hF : F.answers w.tape) (h0 : 0 ≤ c) (h1 : c ≤ 255) :
    Calls Ybaf.prog 8 #[.int .u8 c] w fun e w' => ∃ s, e = .returned (.string s) ∧ Below w.heap.size w w' := by
  have hF' := answers_open hF
  have c9 := call9
  have g := fmtGuard
  have f0 := fmt0
  have f0r := fmt0r
  have f1 := fmt1
  have f1r := fmt1r
  have a1 := act5_113
  have a2 := act5_120
  have o1 := op5_113
  have o2 := op5_120
  by_cases c1 : 32 ≤ c ∧ c < 127
  · obtain ⟨d1, d2⟩ := c1
    go_enter Ybaf.func8, Ybaf.ntmps8
    go_wp2
    apply rows_value nextTurns
    case hr =>
      go_simp
      exact ⟨rfl, rfl⟩
    case h =>
      go_wp2
      go_ret
      exact ⟨_, rfl, ((Below.refl w.heap.size w).alloc (Nat.le_refl _) _).drew⟩
  · go_enter Ybaf.func8, Ybaf.ntmps8
    go_wp2
    all_goals try (exfalso; omega)
    all_goals
      apply rows_value nextTurns
      case hr =>
        go_simp
        exact ⟨rfl, rfl⟩
      case h =>
        go_wp2
        go_ret
        exact ⟨_, rfl, ((Below.refl w.heap.size w).alloc (Nat.le_refl _) _).drew⟩

-- "invalid character %s in a number", one operand
theorem fmt2 : FmtStop.printed? ⟨#[105, 110, 118, 97, 108, 105, 100, 32, 99, 104, 97, 114, 97, 99, 116, 101, 114, 32, 37, 115, 32, 105, 110, 32, 97, 32, 110, 117, 109, 98, 101, 114]⟩ 1 = some [(0, 115, false)] := by kernel_rfl
theorem fmt2r (w : World) : (FmtDoors.printed ⟨#[105, 110, 118, 97, 108, 105, 100, 32, 99, 104, 97, 114, 97, 99, 116, 101, 114, 32, 37, 115, 32, 105, 110, 32, 97, 32, 110, 117, 109, 98, 101, 114]⟩ 1).run Ybaf.prog w = .ok [(0, 115, false)] w := by kernel_rfl
-- "unexpected end", none
theorem fmt3 : FmtStop.printed? ⟨#[117, 110, 101, 120, 112, 101, 99, 116, 101, 100, 32, 101, 110, 100]⟩ 0 = some [] := by kernel_rfl
theorem fmt3r (w : World) : (FmtDoors.printed ⟨#[117, 110, 101, 120, 112, 101, 99, 116, 101, 100, 32, 101, 110, 100]⟩ 0).run Ybaf.prog w = .ok [] w := by kernel_rfl

/-- What errorAt hands back: a new *SyntaxError at the offset. -/
def ErrAt (i : Int) (w : World) (e : Ending) (w' : World) : Prop :=
  ∃ pb : Nat, e = .returned (.iface 28 (.pointer (some ⟨pb, 0, none⟩))) ∧ w'.cell? ⟨pb, 0, none⟩ = some (.int .i64 i) ∧ w.heap.size ≤ pb ∧ Below w.heap.size w w'

set_option maxRecDepth 100000 in
set_option maxHeartbeats 1000000 in
theorem errorAt_bad (F : Interp) (i : Int) (b : Nat) (s : ByteArray) (w : World) (hF : F.answers w.tape) (hc : w.cell? ⟨b, 0, none⟩ = some (.iface 9 (.string s))) :
    Calls Ybaf.prog 7 #[.int .i64 i, .string ⟨#[105, 110, 118, 97, 108, 105, 100, 32, 99, 104, 97, 114, 97, 99, 116, 101, 114, 32, 37, 115, 32, 105, 110, 32, 97, 32, 110, 117, 109, 98, 101, 114]⟩, .slice (some ⟨b, 0, none⟩) 1 1] w (ErrAt i w) := by
  have hF' := answers_open hF
  have c9 := call9
  have g := fmtGuard
  have f0 := fmt2
  have f0r := fmt2r
  have a1 := act9_115
  have o1 := op9_115
  go_enter Ybaf.func7, Ybaf.ntmps7
  go_wp2
  apply rows_value nextTurns
  case hr =>
    go_simp
    exact ⟨rfl, rfl⟩
  case h =>
    go_wp2
    go_ret
    exact ⟨w.heap.size, rfl, by go_simp, Nat.le_refl _, ((Below.refl w.heap.size w).drew).alloc (Nat.le_refl _) _⟩

set_option maxRecDepth 100000 in
set_option maxHeartbeats 1000000 in
theorem errEnd_walk (F : Interp) (i : Int) (w : World) (hF : F.answers w.tape) :
    Calls Ybaf.prog 5 #[.int .i64 i] w (ErrAt i w) := by
  have hF' := answers_open hF
  have c9 := call9
  have g := fmtGuard
  have f0 := fmt3
  have f0r := fmt3r
  go_enter Ybaf.func5, Ybaf.ntmps5
  go_wp2
  apply rows_value nextTurns
  case hr =>
    go_simp
    exact ⟨rfl, rfl⟩
  case h =>
    go_wp2
    go_ret
    exact ⟨w.heap.size, rfl, by go_simp, Nat.le_refl _, ((Below.refl w.heap.size w).drew).alloc (Nat.le_refl _) _⟩

end Go.Proofs.YbulkbsreFmt
