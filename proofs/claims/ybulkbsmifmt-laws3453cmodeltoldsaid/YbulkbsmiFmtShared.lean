/-
  Seat b3453aF: what the two rows share: the start, the stops, how the arguments open.
-/
import Derived.Test.YbulkbsmiFmtRows
import Derived.Test.YbulkbsmiFmtDigits
import Derived.ProofKit
import Derived.LaidMore
import Derived.OpenShut
import Derived.OpenVars
import Derived.Stop.Joined
import Derived.Stop.JoinedAt
import Derived.Stop.JoinedTold
import Derived.Stop.LaidErr
import Derived.Deep.DeepWitnessRef
import Derived.Below
namespace Go.Proofs.YbulkbsmiFmt
open Go.ChangeShapes Go.WideShapes Go.ChangeAt Go.RowKit
open Go.Extern.Stop Go.Stop Go.Extern
set_option linter.unusedVariables false

theorem own : ownKnob Ybaf.prog.godebug = none := by kernel_rfl
theorem laidOut : laidOutB Ybaf.prog = true := by kernel_rfl
theorem stops : Ybaf.pinned.checked.prog.stops = ["fmt.errorf"] := by kernel_rfl
theorem stopKnobs : Ybaf.pinned.checked.prog.stopKnobs = [] := by kernel_rfl
theorem quiet (os : Os) : Stop.quiet Ybaf.pinned.checked.prog os := by
  intro k hk
  rw [stopKnobs] at hk
  cases hk

/-- The start that the door's own run leaves meets the listed condition. -/
theorem door_met (os : Os) (args : Array Value) : laidMetH Ybaf.prog Rows.lawS3453CDigitsRow.laid ((World.doorLaid Ybaf.prog 400 os).forCall (fun _ _ => 0) ⟨#[], args, []⟩).memory :=
  laidMetH_of_parts3 (fuel := 8) (laidMet_of_run' 8 (by kernel_rfl) (by kernel_rfl)) (by kernel_rfl) (by kernel_rfl)


/-- A slice of bytes that is read is one that the walk takes. -/
theorem arg_of {H : Type} {enc : TypeId × Value → H} {W : World} {a : Option Addr} {len cap : Nat} {d : DataW H} {p : List MemPlace} (h : DataW.Trod enc Ybaf.prog W 0 (fun _ => true) true 22 (.slice a len cap) d p) :
    ∃ P, ArgB W a len cap P := by
  obtain ⟨fuel, hf⟩ := h
  rcases open_ints Ybaf.underlying22 Ybaf.underlying5 (by kernel_rfl) hf with ⟨hcs, _⟩ | ⟨x, l, c, zs, hcs, _, hl, hm, hz, _, hcell, hwz⟩
  · simp [Value.cells] at hcs
    obtain ⟨rfl, rfl, rfl⟩ := hcs
    exact ⟨fun _ => 0, .inl ⟨rfl, rfl, rfl⟩⟩
  · simp [Value.cells] at hcs
    obtain ⟨rfl, rfl, rfl⟩ := hcs
    simp only [if_true] at hz
    refine ⟨fun j => zs.getD j 0, .inr ⟨x, rfl, fun j hj => ⟨hcell j (by omega), ?_⟩⟩⟩
    show 0 ≤ zs.getD j 0 ∧ zs.getD j 0 ≤ 255
    have hw := hwz (zs.getD j 0) (by rw [List.getD_eq_getElem?_getD, List.getElem?_eq_getElem (by omega), Option.getD_some]; exact List.getElem_mem _)
    generalize zs.getD j 0 = z at hw
    simp [Lit.wf, IntKind.min, IntKind.max, IntKind.signed, IntKind.bits] at hw
    omega

/-- An array of four bytes. -/
theorem arr_of {H : Type} {enc : TypeId × Value → H} {W : World} {base : Nat} {v : Value} {d : DataW H} {p : List MemPlace} (hok : Value.okWide Ybaf.prog W .any base 38 v) (h : DataW.Trod enc Ybaf.prog W 0 (fun _ => true) true 38 v d p) :
    ∃ X : Nat → Int, v = .agg #[.int .u8 (X 0), .int .u8 (X 1), .int .u8 (X 2), .int .u8 (X 3)] ∧ ∀ j, j < 4 → 0 ≤ X j ∧ X j ≤ 255 := by
  unfold Value.okWide at hok
  rw [Ybaf.underlying38] at hok
  obtain ⟨cs, rfl, hsz, _⟩ := hok
  obtain ⟨fuel, hf⟩ := h
  obtain ⟨xs, m, rfl, _, _, hn, hel⟩ := DataW.trod_array Ybaf.underlying38 hf
  have c5 : Ybaf.prog.cellsOf 5 = 1 := by kernel_rfl
  have c38 : Ybaf.prog.cellsOf 38 = 4 := by kernel_rfl
  rw [c38] at hsz
  have key : ∀ j (hj : j < 4), ∃ z : Int, cs[j]'(by omega) = .int .u8 z ∧ 0 ≤ z ∧ z ≤ 255 := by
    intro j hj
    have hj' := hel j hj
    rw [c5, List.getElem?_eq_getElem (by omega)] at hj'
    obtain ⟨z, e1, _, hw⟩ := DataW.trod_int Ybaf.underlying5 hj'
    refine ⟨z, ?_, ?_⟩
    · have e2 : (Value.agg cs).cells.toList = cs.toList := rfl
      rw [e2, Nat.mul_one] at e1
      have e3 : (cs.toList.drop j).take 1 = [cs[j]'(by omega)] := by
        rw [List.drop_eq_getElem_cons (by simp; omega)]
        simp
      rw [e3] at e1
      simpa using e1
    · simp [Lit.wf, IntKind.min, IntKind.max, IntKind.signed, IntKind.bits] at hw
      omega
  obtain ⟨z0, h0, b0⟩ := key 0 (by omega)
  obtain ⟨z1, h1, b1⟩ := key 1 (by omega)
  obtain ⟨z2, h2, b2⟩ := key 2 (by omega)
  obtain ⟨z3, h3, b3⟩ := key 3 (by omega)
  refine ⟨fun j => match j with | 0 => z0 | 1 => z1 | 2 => z2 | _ => z3, ?_, ?_⟩
  · congr 1
    apply Array.ext
    · simp [hsz]
    · intro i hi1 hi2
      have hi : i < 4 := by omega
      match i, hi with
      | 0, _ => simpa using h0
      | 1, _ => simpa using h1
      | 2, _ => simpa using h2
      | 3, _ => simpa using h3
  · intro j hj
    match j, hj with
    | 0, _ => exact b0
    | 1, _ => exact b1
    | 2, _ => exact b2
    | 3, _ => exact b3

end Go.Proofs.YbulkbsmiFmt
