/-
  Seat b3455aF: closed facts for the walk of Run (5).
-/
import Derived.Test.YbulkbsnkFmtDone
import Derived.Laws.Tables
namespace Go.Proofs.YbulkbsnkFmt
open Go.RowKit

theorem info44 : (Ybaf.prog.info? 46).map (fun i => (i.zero, i.size, i.bytes)) = some (some (.slice none 0 0), 1, 24) := by kernel_rfl
theorem built45 (a b : Option Addr) (n m c d : Nat) : Ybaf.prog.built 45 [(0, .slice a n c), (1, .slice b m d)] = some #[.slice a n c, .slice b m d] := by kernel_rfl
theorem methodStep (v : Value) (w : World) : (Go.method 172 32 v "Step").run Ybaf.prog w = .ok (26, v) w := by kernel_rfl
theorem nilStep (a : Addr) (w : World) : (Go.nilAhead 172 32 (.pointer (some a)) "Step").run Ybaf.prog w = .ok (some false) w := by kernel_rfl

end Go.Proofs.YbulkbsnkFmt
