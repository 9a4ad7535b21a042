/-
  Seat b3453aF: errors.Is and fmt.Errorf by their contracts (after the guide's worked Sentry texts, its numbers turned to this dump's): errors.Is(e, ErrSyntax), e a *fmt.wrapError over ErrSyntax itself; syntaxError, which makes such an error.
-/
import Derived.Test.YbulkbsmiFmtRows
import Derived.WalkKit
import Derived.LaidEql
import Derived.Stop.Asserts
import Derived.Stop.CallBack
import Derived.Stop.IfaceNil
import Derived.RowKitTokens
namespace Go.Proofs.YbulkbsmiFmt
open Go.RowKit Go.Extern.Stop Go.Stop Go.Extern

theorem isTypeOf (v : Value) (w : World) : (Extern.ReflectliteType.typeOf #[.iface 62 v]).run Ybaf.prog w = .ok (.iface 50 (.agg #[.pointer (some ⟨1, 62, none⟩)])) w := by kernel_rfl
theorem isComparable (w : World) : ((Extern.ReflectliteType.method fun t => do Go.Extern.Rtype.noPackHeld "Comparable" t; pure (.bool (← typeInfo t).comparable)) #[.agg #[.pointer (some ⟨1, 62, none⟩)]]).run Ybaf.prog w = .ok (.bool true) w := by kernel_rfl
theorem callComparable (w : World) : (callFunc 36 #[.agg #[.pointer (some ⟨1, 62, none⟩)]]).run Ybaf.prog w = .ok (.value (.bool true)) w := by
  rw [@run_callFunc_extern Ybaf.prog 36 _ (Extern.ReflectliteType.method fun t => do Go.Extern.Rtype.noPackHeld "Comparable" t; pure (.bool (← typeInfo t).comparable)) Ybaf.func36 (by kernel_rfl) (by kernel_rfl) (by kernel_rfl) (by kernel_rfl), isComparable]
  rfl
theorem isMethodComparable (v : Value) (w : World) : (Go.method 207 50 v "Comparable").run Ybaf.prog w = .ok (36, v) w := by kernel_rfl
theorem isComp : (Ybaf.prog.info? 62).map (·.comparable) = some true := by kernel_rfl
theorem isSize : (Ybaf.prog.info? 64).map (·.size) = some 1 := by kernel_rfl
theorem noIsE (v : Value) (xT : TypeId) (w : World) : (Instr.typeAssert (.iface 62 v) xT 52 true).run Ybaf.prog w = .ok (.tuple #[.nilIface, .bool false]) w := run_typeAssert_lacksB Ybaf.underlying52 (by kernel_rfl) (by kernel_rfl) v xT w
theorem noIsW (v : Value) (xT : TypeId) (w : World) : (Instr.typeAssert (.iface 61 v) xT 52 true).run Ybaf.prog w = .ok (.tuple #[.nilIface, .bool false]) w := run_typeAssert_lacksB Ybaf.underlying52 (by kernel_rfl) (by kernel_rfl) v xT w
theorem hasUnwrapW (v : Value) (xT : TypeId) (w : World) : (Instr.typeAssert (.iface 61 v) xT 55 true).run Ybaf.prog w = .ok (.tuple #[.iface 61 v, .bool true]) w := run_typeAssert_hasB Ybaf.underlying55 (by kernel_rfl) v xT w
theorem methodUnwrap (v : Value) (w : World) : (Go.method 207 61 v "Unwrap").run Ybaf.prog w = .ok (46, v) w := by kernel_rfl

/-- errors.Is(e, x), e a *fmt.wrapError that wraps x itself. -/
theorem is_wrap_same (pb po : Nat) (b : Addr) (w : World) (h1 : w.cell? ⟨pb, po + 1, none⟩ = some (.iface 62 (.pointer (some b)))) :
    Calls Ybaf.prog 8 #[.iface 61 (.pointer (some ⟨pb, po, none⟩)), .iface 62 (.pointer (some b))] w fun e w' => e = .returned (.bool true) ∧ w' = w := by
  obtain ⟨i, hi, hcmp⟩ := Option.map_eq_some_iff.1 isComp
  obtain ⟨j, hj, hjs⟩ := Option.map_eq_some_iff.1 isSize
  have h8 := @run_callFunc_extern Ybaf.prog 11 _ Extern.ReflectliteType.typeOf Ybaf.func11 (by kernel_rfl) (by kernel_rfl) (by kernel_rfl) (by kernel_rfl)
  have tT := isTypeOf
  have cT := callComparable
  have mR := isMethodComparable
  have nE := noIsE
  have nW := noIsW
  have uW := hasUnwrapW
  have mU := methodUnwrap
  have heq := run_eql_iface_ptr_same (P := Ybaf.prog) w b Ybaf.underlying31 Ybaf.underlying62 hi hcmp hj
  have hty := run_eql_iface_types (P := Ybaf.prog) 61 62 (.pointer (some ⟨pb, po, none⟩)) (.pointer (some b)) Ybaf.underlying31 (by decide) w
  go_enter Ybaf.func8, Ybaf.ntmps8
  go_wp2
  refine wp_loop_rounds 2 ?_
  rw [rounds_succ]
  go_wp2
  rw [rounds_succ]
  go_wp2
  go_ret
  exact ⟨rfl, rfl⟩

theorem call14 (args : Array Value) (w : World) : (callFunc 14 args).run Ybaf.prog w = ((FmtStop.errorf #[9, 60] #[31] args).run Ybaf.prog w).andThen fun v w' => .ok (.value v) w' :=
  run_callFunc_extern Ybaf.func14 (by kernel_rfl) (by kernel_rfl) (by kernel_rfl) (by kernel_rfl) args w
theorem fmtGuard (name : String) (w : World) : (FmtStop.guard name).run Ybaf.prog w = .ok () w := by kernel_rfl
-- "%w: %s"
theorem fmt0 : FmtStop.printed? ⟨#[37, 119, 58, 32, 37, 115]⟩ 2 = some [(0, 119, false), (1, 115, false)] := by kernel_rfl
theorem fmt0r (w : World) : (FmtDoors.printed ⟨#[37, 119, 58, 32, 37, 115]⟩ 2).run Ybaf.prog w = .ok [(0, 119, false), (1, 115, false)] w := by kernel_rfl
def shape9 : List UInt8 := [12, 6, 0, 0, 0, 0, 0, 0, 0, 115, 116, 114, 105, 110, 103]
theorem op9_115w (name : String) (x : ByteArray) (w : World) : (FmtStop.operand name true 115 false (.iface 9 (.string x))).run Ybaf.prog w = .ok (shape9, FmtStop.pack x.data.toList) w := by kernel_rfl
theorem ptr62 (w : World) : (FmtStop.ptrTo "errors.errorString").run Ybaf.prog w = .ok 62 w := by kernel_rfl
theorem elem62 (w : World) : (elemOf 62).run Ybaf.prog w = .ok 64 w := by kernel_rfl
theorem isError62 (w : World) : (FmtDoors.textMethod 62 "Error").run Ybaf.prog w = .ok true w := by kernel_rfl
def plain62 : List UInt8 := 14 :: FmtStop.pack "*errors.errorString".toUTF8.data.toList
theorem opPlain62_119w (name : String) (a : Addr) (s : ByteArray) (w : World) (hc : w.cell? a = some (.string s)) :
    (FmtStop.operand name true 119 false (.iface 62 (.pointer (some a)))).run Ybaf.prog w = .ok (plain62, s.data.toList) w := by
  have h1 : (typeStr 62).run Ybaf.prog w = .ok "*errors.errorString" w := by kernel_rfl
  have d2 : Ybaf.t62.desc = .pointer 64 := rfl
  have d3 : Ybaf.t64.desc = .named "errors.errorString" 63 := rfl
  simp [FmtStop.operand, h1, d2, d3, run_load, hc, plain62]
theorem ptr61 (w : World) : (FmtStop.ptrTo "fmt.wrapError").run Ybaf.prog w = .ok 61 w := by kernel_rfl
theorem elem61 (w : World) : (elemOf 61).run Ybaf.prog w = .ok 94 w := by kernel_rfl
theorem isError61 (w : World) : (FmtDoors.textMethod 61 "Error").run Ybaf.prog w = .ok true w := by kernel_rfl

/-- syntaxError: a new *fmt.wrapError over ErrSyntax's own value; its text is left open (nothing here hangs on it). -/
theorem syntax_walk (F : Interp) (r s : ByteArray) (a : Addr) (w : World) (hF : F.answers w.tape) (hg : w.cell? ⟨0, 0, none⟩ = some (.iface 62 (.pointer (some a))))
    (hs : w.cell? a = some (.string s)) :
    Calls Ybaf.prog 10 #[.string r] w fun e w' => ∃ (pb : Nat), e = .returned (.iface 61 (.pointer (some ⟨pb, 0, none⟩))) ∧ w'.cell? ⟨pb, 1, none⟩ = some (.iface 62 (.pointer (some a))) ∧ w.heap.size ≤ pb ∧ Below w.heap.size w w' := by
  have hF' : ∀ i name reading k range, w.tape i (.extern (word name reading k) range) = F name reading k := hF
  have hlt := World.block_lt_of_cell? w _ hs
  have hs' : ∀ o, (w.alloc o).cell? a = some (.string s) := fun o => (((Below.refl w.heap.size w).alloc (Nat.le_refl _) o).cell hlt).trans hs
  have hop := fun o => opPlain62_119w "fmt.errorf" a s _ (hs' o)
  have c14 := call14
  have g := fmtGuard
  have f0 := fmt0
  have f0r := fmt0r
  have o9 := op9_115w
  have p1 := ptr62
  have p2 := elem62
  have p3 := isError62
  have p4 := ptr61
  have p5 := elem61
  have p6 := isError61
  go_enter Ybaf.func10, Ybaf.ntmps10
  go_wp2
  go_ret
  refine ⟨w.heap.size + 1, rfl, by go_simp, Nat.le_succ _, ?_⟩
  exact ((((Below.refl w.heap.size w).alloc (Nat.le_refl _) _).alloc (by simp) _).drew)

end Go.Proofs.YbulkbsmiFmt
