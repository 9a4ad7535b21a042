/-
  Seat b3455aF: zzs3455ceq (28), Cost (8).
-/
import Derived.Test.YbulkbsnkFmtLeaf
namespace Go.Proofs.YbulkbsnkFmt
open Go.RowKit
set_option linter.unusedVariables false

theorem mcell {w : World} {b k r L : Nat} (h : w.heap[b]? = some (.cells (mcells k r L) 5 (0, 0))) (x : Nat) (hx : x < L) : w.cell? ⟨b, x, none⟩ = some (.int .u8 (((k + r + x) % 2 : Nat) : Int)) := by
  simp [World.cell?, h, mcells, hx]

theorem eql_nil (a : Option Addr) (l c : Nat) (w : World) : (binOp .eql 47 (.slice a l c) (.slice none 0 0)).run Ybaf.prog w = .ok (.bool a.isNone) w := by
  simp [binOp, run_equal_slice_nil (P := Ybaf.prog) w 47 5 a l c Ybaf.underlying47]

set_option maxRecDepth 100000 in
set_option maxHeartbeats 1000000 in
theorem eq_walk (v1 v2 : Value) (o : Option Nat) (k r : Nat) (w : World) (hk : ∀ L, o = some L → L ≤ 1000) (h1 : IsMsg w v1 o k r) (h2 : IsMsg w v2 o k r) :
    Calls Ybaf.prog 28 #[v1, v2] w fun e w' => e = .returned (.bool true) ∧ ∃ m, w' = w.drewN m := by
  have hE := eql_nil
  cases o with
  | none =>
    obtain rfl : v1 = .slice none 0 0 := h1
    obtain rfl : v2 = .slice none 0 0 := h2
    go_enter Ybaf.func28, Ybaf.ntmps28
    go_wp2_with fail
    refine wp_loop_rounds 1 ?_
    rw [rounds_succ]
    go_wp2_with fail
    go_ret
    exact ⟨rfl, 0, rfl⟩
  | some L =>
    obtain ⟨b1, rfl, hb1⟩ := h1
    obtain ⟨b2, rfl, hb2⟩ := h2
    have hL := hk L rfl
    have Hb1 := hide hb1
    have Hb2 := hide hb2
    clear hb1 hb2 hk
    go_enter Ybaf.func28, Ybaf.ntmps28
    go_wp2_with fail

    go_loopw [5] (fun iv wr => ∃ i : Nat, i ≤ L ∧ iv = .int .i64 i ∧ ∃ m, wr = w.drewN m) (fun iv _ => L - (intOf iv).toNat)
    case atStart => exact ⟨0, by omega, rfl, 0, rfl⟩
    case round =>
      obtain ⟨i, hi, rfl, m, hwr⟩ := hrel
      by_cases hlt : i < L
      · have hc1 : wr.cell? ⟨b1, i, none⟩ = some (.int .u8 (((k + r + i) % 2 : Nat) : Int)) := by rw [hwr]; exact mcell (w := w) (unhide Hb1) i hlt
        have hc2 : wr.cell? ⟨b2, i, none⟩ = some (.int .u8 (((k + r + i) % 2 : Nat) : Int)) := by rw [hwr]; exact mcell (w := w) (unhide Hb2) i hlt
        generalize (k + r + i) % 2 = y at hc1 hc2
        have Hwr := hide hwr
        clear hwr
        have hne : (0 : Int) ≤ (i : Int) := by omega
        have hlt3 : (i : Int) < (L : Int) := by omega
        go_wp2_with fail
        go_quiet (fail)
        go_wp2_with fail
        exact ⟨⟨i + 1, by omega, by go_num, _, by rw [unhide Hwr, World.drewN_drewN]⟩, by simp [intOf]; omega⟩
      · obtain rfl : i = L := by omega
        go_wp2_with fail
        go_ret
        exact ⟨rfl, m, rfl⟩

/-- What a message costs. -/
def mcost : Option Nat → Int
  | none => 0
  | some L => max (L : Int) 1
def costSum (O : Nat → Option Nat) (id : Nat) : Nat → Int
  | 0 => 0
  | m + 1 => costSum O id m + (if m = id then 0 else mcost (O m))
theorem costSum_bd (O : Nat → Option Nat) (id : Nat) (hO : ∀ j L, O j = some L → L ≤ 1000) : ∀ m, 0 ≤ costSum O id m ∧ costSum O id m ≤ 1000 * m
  | 0 => by simp [costSum]
  | m + 1 => by
    obtain ⟨h1, h2⟩ := costSum_bd O id hO m
    have : 0 ≤ (if m = id then 0 else mcost (O m)) ∧ (if m = id then 0 else mcost (O m)) ≤ 1000 := by
      split
      · omega
      · cases h : O m with
        | none => simp [mcost]
        | some L => have := hO m L h; simp only [mcost]; omega
    simp only [costSum]
    omega

/-- A message's value by its length alone. -/
def MsgV (v : Value) (o : Option Nat) : Prop :=
  match o with
  | none => v = .slice none 0 0
  | some L => ∃ b, v = .slice (some b) L L
theorem IsMsg.v {w : World} {v : Value} {o : Option Nat} {k r : Nat} (h : IsMsg w v o k r) : MsgV v o := by
  cases o with
  | none => exact h
  | some L => obtain ⟨b, rfl, _⟩ := h; exact ⟨_, rfl⟩

set_option maxRecDepth 100000 in
set_option maxHeartbeats 1000000 in
theorem cost_walk (oa : Option Addr) (n cap id : Nat) (O : Nat → Option Nat) (w : World) (hn : n ≤ 10) (hid : id ≤ 10) (hO : ∀ j L, O j = some L → L ≤ 1000) (hc : 0 < n → ∃ b o, oa = some ⟨b, o, none⟩ ∧ ∀ j, j < n → ∃ v, w.cell? ⟨b, o + j, none⟩ = some v ∧ MsgV v (O j)) :
    Calls Ybaf.prog 8 #[.int .i64 id, .slice oa n cap] w fun e w' => e = .returned (.int .i64 (costSum O id n)) ∧ w' = w := by
  have Hc := hide hc
  have HO := hide hO
  clear hc hO
  go_enter Ybaf.func8, Ybaf.ntmps8
  go_wp2_with fail
  go_loopw [5, 10] (fun bv iv wr => ∃ i : Nat, i ≤ n ∧ iv = .int .i64 i ∧ bv = .int .i64 (costSum O id i) ∧ wr = w) (fun _ iv _ => n - (intOf iv).toNat)
  case atStart => exact ⟨0, by omega, rfl, rfl, rfl⟩
  case round =>
    obtain ⟨i, hi, rfl, rfl, hwr⟩ := hrel
    subst hwr
    by_cases hlt : i < n
    · obtain ⟨b, o, rfl, hcs⟩ := (unhide Hc) (by omega)
      obtain ⟨v, hv, hm⟩ := hcs i hlt
      have hb := costSum_bd O id (unhide HO) i
      have Hs : Hid (costSum O id (i + 1) = costSum O id i + (if i = id then 0 else mcost (O i))) := hide rfl
      have hL := (unhide HO) i
      clear hcs
      generalize costSum O id i = R at hb Hs ⊢
      obtain ⟨hb0, hb1⟩ := hb
      by_cases hii : i = id
      · rw [if_pos hii] at Hs
        subst hii
        clear hm hL
        go_wp2_with fail
        exact ⟨⟨i + 1, by omega, by go_num, by rw [unhide Hs]; simp, trivial⟩, by simp [intOf]; omega⟩
      · rw [if_neg hii] at Hs
        have hbq : ((i : Int) != (id : Int)) = true := by simp; omega
        cases hOi : O i with
        | none =>
          rw [hOi] at hm Hs
          obtain rfl : v = .slice none 0 0 := hm
          clear hL hOi
          go_wp2_with fail
          exact ⟨⟨i + 1, by omega, by go_num, by rw [unhide Hs]; simp [mcost], trivial⟩, by simp [intOf]; omega⟩
        | some L =>
          rw [hOi] at hm Hs
          have hL' := hL L hOi
          obtain ⟨bb, rfl⟩ := hm
          clear hL hOi
          go_wp2_with fail
          refine ⟨⟨i + 1, by omega, by go_num, congrArg (Value.int .i64) ?_, trivial⟩, by simp [intOf]; omega⟩
          rw [unhide Hs]
          simp only [mcost]
          split <;> omega
    · obtain rfl : i = n := by omega
      go_wp2_with fail
      go_ret
      exact ⟨rfl, rfl⟩

end Go.Proofs.YbulkbsnkFmt
