/-
  Seat b3455aF: LawS3455CRun (3): closed facts; the early returns.
-/
import Derived.Test.YbulkbsnkFmtInp
import Derived.Deep.OwnRows
import Derived.BigRegion
import Derived.Deep.DeepCutAuto
import Derived.Deep.LoopGhost
namespace Go.Proofs.YbulkbsnkFmt
open Go.RowKit
set_option linter.unusedVariables false

theorem info4 : (Ybaf.prog.info? 4).map (fun i => (i.zero, i.size, i.bytes)) = some (some (.bool false), 1, 1) := by kernel_rfl
theorem info32 : (Ybaf.prog.info? 32).map (fun i => (i.zero, i.size, i.bytes)) = some (some (.pointer none), 1, 8) := by kernel_rfl
theorem info36 : (Ybaf.prog.info? 36).map (fun i => (i.zero, i.size, i.bytes)) = some (some .nilIface, 1, 16) := by kernel_rfl
theorem built28 (a : Option Addr) (l c : Nat) (z : Int) : Ybaf.prog.built 28 [(0, .slice a l c), (1, .int .i64 z)] = some #[.slice a l c, .int .i64 z, .slice none 0 0, .bool false] := by kernel_rfl
theorem built34 (a : Addr) (z : Int) : Ybaf.prog.built 34 [(0, .pointer (some a)), (1, .int .i64 z)] = some #[.pointer (some a), .int .i64 z, .int .i64 0] := by kernel_rfl
theorem neq24 (a : Option Addr) (l c : Nat) (w : World) : (binOp .neq 24 (.slice a l c) (.slice none 0 0)).run Ybaf.prog w = .ok (.bool (!a.isNone)) w := by
  simp [binOp, run_equal_slice_nil (P := Ybaf.prog) w 24 29 a l c Ybaf.underlying24]

set_option maxRecDepth 100000 in
set_option maxHeartbeats 1000000 in
theorem law_early (nv : Int) (pa ra sa : Option Addr) (len pcap rlen rcap slen scap : Nat) (hor stop : Int) (w : World) (h : 1024 < len ∨ 1024 < rlen ∨ 1024 < slen ∨ 300 < hor) :
    Calls Ybaf.prog 3 #[.int .u8 nv, .slice pa len pcap, .slice ra rlen rcap, .slice sa slen scap, .int .i64 hor, .int .i64 stop] w fun e w' => e = .returned (.bool true) ∧ Below w.heap.size w w' := by
  have hb : ∀ o, Below w.heap.size w (w.alloc o) := fun o => (Below.refl _ w).alloc (Nat.le_refl _) o
  have Hb := hide hb
  clear hb
  by_cases h1 : 1024 < len
  · have d1 : (1024 : Int) < (len : Int) := by omega
    clear h
    go_enter Ybaf.func3, Ybaf.ntmps3
    go_wp2_with fail
    go_ret
    exact ⟨rfl, (unhide Hb) _⟩
  · have d1 : ¬ (1024 : Int) < (len : Int) := by omega
    by_cases h2 : 1024 < rlen
    · have d2 : (1024 : Int) < (rlen : Int) := by omega
      clear h
      go_enter Ybaf.func3, Ybaf.ntmps3
      go_wp2_with fail
      go_ret
      exact ⟨rfl, (unhide Hb) _⟩
    · have d2 : ¬ (1024 : Int) < (rlen : Int) := by omega
      by_cases h3 : 1024 < slen
      · have d3 : (1024 : Int) < (slen : Int) := by omega
        clear h
        go_enter Ybaf.func3, Ybaf.ntmps3
        go_wp2_with fail
        go_ret
        exact ⟨rfl, (unhide Hb) _⟩
      · have d3 : ¬ (1024 : Int) < (slen : Int) := by omega
        have d4 : (300 : Int) < hor := by omega
        clear h
        go_enter Ybaf.func3, Ybaf.ntmps3
        go_wp2_with fail
        go_ret
        exact ⟨rfl, (unhide Hb) _⟩

end Go.Proofs.YbulkbsnkFmt
