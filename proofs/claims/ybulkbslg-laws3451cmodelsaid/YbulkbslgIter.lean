/-
  Seat b3451a: slices.Values, AppendSeq, Collect at []string over this dump (functions 10, 14, 15, 12), in a fence. Turned out of the guide's worked examples for a slice of ints (GgSlicesIterAtTheDump, GgPosAtTheDump).
-/
import Derived.Test.YbulkbslgHas
import Derived.RangeFuncBox
import Derived.RangeFuncLeaves
import Derived.Shelf.Abstract
import Derived.OwnWalkIn
import Derived.TacticsInMore
import Derived.LoopNIn
import Derived.LoopIn
import Derived.Maps.AppendAt
namespace Go.Proofs.Ybulkbslg
open Go.RowKit Go.Shelf
attribute [local go_sem] Oper.semAt_some

/-- The first k strings of S. -/
def upto (S : Nat → ByteArray) (k : Nat) : List ByteArray := (List.range k).map S
theorem upto_succ (S : Nat → ByteArray) (k : Nat) : upto S (k + 1) = upto S k ++ [S k] := by simp [upto, List.range_succ]
theorem upto_length (S : Nat → ByteArray) (k : Nat) : (upto S k).length = k := by simp [upto]

set_option maxRecDepth 100000 in
set_option maxHeartbeats 1000000 in
/-- slices.Values's closure, for every loop body that keeps what lay below n₀. -/
theorem values1_in (F : Fence) (n : Nat) (h14 : F.fn 14) (hro : F.round = none) (hn : 1 ≤ n) (l Bs n₀ b off len cap : Nat) (S : Nat → ByteArray) (hlen : len ≤ 4096) (hb : b < n₀) (J Jx : List ByteArray → World → Prop)
    (hY : ∀ pre x W, J pre W → pre.length < len → YieldAt F (n - 1) Yba.prog l #[.string x] W fun e W' =>
      (e = .returned (.bool true) ∧ J (pre ++ [x]) W' ∧ Below n₀ W W') ∨ (e = .returned (.bool false) ∧ Jx (pre ++ [x]) W'))
    (W : World) (hBs : W.cell? ⟨Bs, 0, none⟩ = some (.slice (some ⟨b, off, none⟩) len cap)) (hc : ∀ j, j < len → W.cell? ⟨b, off + j, none⟩ = some (.string (S j))) (h0 : J [] W) :
    CallsIn F n Yba.prog 14 #[.func (.yield l) #[] #[], .pointer (some ⟨Bs, 0, none⟩)] W fun e W' => (∃ v, e = .returned v) ∧
      ((∃ ys, ys = upto S len ∧ J ys W') ∨ (∃ pre, True ∧ Jx pre W')) := by
  refine callsIn_of_wp Yba.func14 rfl h14 ?_ hro
  simp only [Yba.ntmps14, List.size_toArray, List.length_cons, List.length_nil, Nat.reduceAdd, Nat.reduceSub, Array.replicate_succ, Array.replicate_zero, List.push_toArray, List.append_toArray, List.nil_append, List.cons_append]
  gi_wp2
  gi_loopw [7] (fun i wr => ∃ k : Nat, k ≤ len ∧ i = .int .i64 k ∧ J (upto S k) wr ∧ Below n₀ W wr) (fun i _ => len - (intOf i).toNat)
  case atStart => exact ⟨0, Nat.zero_le _, rfl, h0, Below.refl _ _⟩
  case round =>
    obtain ⟨k, hk, rfl, hJs, hnx⟩ := hrel
    by_cases hlt : k < len
    · have hcx : wr.cell? ⟨b, off + k, none⟩ = some (.string (S k)) := (hnx.cell (p := ⟨b, off + k, none⟩) hb).trans (hc k hlt)
      obtain ⟨fn, tmps, assign, body, hy, hR⟩ := hY _ (S k) wr hJs (by rw [upto_length]; exact hlt)
      clear hc
      gi_wp2
      refine hR.mono ?_
      rintro e W3 (⟨rfl, hJ3, hk3⟩ | ⟨rfl, hJx3⟩)
      · gi_wp2
        go_roundw
        case rel => exact ⟨k + 1, by omega, by go_num, by rw [upto_succ]; exact hJ3, hnx.trans hk3⟩
        case measure => simp [intOf]; omega
      · gi_wp2
        refine bodyPost_ret (results_none rfl _ _ _) rfl ?_
        exact ⟨⟨_, rfl⟩, .inr ⟨_, trivial, hJx3⟩⟩
    · obtain rfl : k = len := by omega
      gi_wp2
      go_end0
      exact ⟨⟨_, rfl⟩, .inl ⟨_, rfl, hJs⟩⟩

set_option maxHeartbeats 1000000 in
/-- 'slices.Values(s)': the slice value is boxed; the function value captures the box. -/
theorem values_in (F : Fence) (n : Nat) (h10 : F.fn 10) (hro : F.round = none) (a : Option Addr) (len cap : Nat) (w : World) :
    CallsIn F n Yba.prog 10 #[.slice a len cap] w fun e w' => e = .returned (.func (.func 14) #[] #[.pointer (some ⟨w.heap.size, 0, none⟩)]) ∧ w' = w.alloc (.cells #[.slice a len cap] 23) := by
  refine callsIn_of_wp Yba.func10 rfl h10 ?_ hro
  simp only [Yba.ntmps10, List.size_toArray, List.length_cons, List.length_nil, Nat.reduceAdd, Nat.reduceSub, Array.replicate_succ, Array.replicate_zero, List.push_toArray, List.append_toArray, List.nil_append, List.cons_append]
  gi_wp2
  go_ret
  exact ⟨rfl, rfl⟩

/-- What slices.Values hands back, as the law for a range over a function asks it. -/
theorem values_stops (F : Fence) (n : Nat) (h14 : F.fn 14) (hro : F.round = none) (hn : 1 ≤ n) (Bs n₀ b off len cap : Nat) (S : Nat → ByteArray) (hlen : len ≤ 4096) (w : World) (hBs : Bs < w.heap.size) (hn₀ : n₀ ≤ w.heap.size) (hb : b < n₀)
    (hcs : w.cell? ⟨Bs, 0, none⟩ = some (.slice (some ⟨b, off, none⟩) len cap)) (hc : ∀ j, j < len → w.cell? ⟨b, off + j, none⟩ = some (.string (S j))) :
    SeqStopsK F n Yba.prog 14 #[.pointer (some ⟨Bs, 0, none⟩)] (fun x : ByteArray => #[Value.string x]) (Below n₀) (fun ys => ys = upto S len) (fun _ => True) len w := fun l J Jx W hW _ _ hY h0 =>
  values1_in F n h14 hro hn l Bs n₀ b off len cap S hlen hb J Jx hY W ((hW.cell (p := ⟨Bs, 0, none⟩) hBs).trans hcs) (fun j hj => (hW.cell (p := ⟨b, off + j, none⟩) (by show b < w.heap.size; omega)).trans (hc j hj)) h0

theorem info9 : (Yba.prog.info? 9).map (fun i => (i.zero, i.size, i.bytes)) = some (some (.string ByteArray.empty), 1, 16) := by kernel_rfl

set_option maxRecDepth 100000 in
set_option maxHeartbeats 2000000 in
/-- slices.AppendSeq(nil, seq) at what slices.Values handed back: a new slice of just those strings. -/
theorem appendSeq_in (F : Fence) (n : Nat) (h15 : F.fn 15) (h14 : F.fn 14) (hro : F.round = none) (hn : 3 ≤ n) (Bs b off len cap : Nat) (S : Nat → ByteArray) (hlen : len ≤ 4096) (w : World) (hBs : Bs < w.heap.size) (hb : b < w.heap.size)
    (hcs : w.cell? ⟨Bs, 0, none⟩ = some (.slice (some ⟨b, off, none⟩) len cap)) (hc : ∀ j, j < len → w.cell? ⟨b, off + j, none⟩ = some (.string (S j))) :
    CallsIn F n Yba.prog 15 #[.slice none 0 0, .func (.func 14) #[] #[.pointer (some ⟨Bs, 0, none⟩)]] w fun e W' => ∃ v, e = .returned v ∧ W'.ownsRow w.heap.size 9 1 v len ((upto S len).map Value.string) ∧ Below w.heap.size w W' := by
  have h1 : 1 ≤ n := by omega
  obtain ⟨i0, hi, hz0, hz1, hz2⟩ := info_parts info9
  refine callsIn_of_wp_marks Yba.func15 rfl h15 ?_ hro
  simp only [Yba.ntmps15, List.size_toArray, List.length_cons, List.length_nil, Nat.reduceAdd, Nat.reduceSub, Array.replicate_succ, Array.replicate_zero, List.push_toArray, List.append_toArray, List.nil_append, List.cons_append]
  gi_wp2
  have bO := Boxed.new w 23 (.slice none 0 0)
  have hB0 : Below w.heap.size w (w.alloc (.cells #[.slice none 0 0] 23)) := (Below.refl _ w).alloc (Nat.le_refl _) _
  refine wpIn_rangeFunc_ownG hro h1 (gf := 14) (lb := #[.pointer (some ⟨Bs, 0, none⟩)]) rfl h14 (enters_of Yba.func14 (by kernel_rfl) rfl)
    (values_stops F (n - 1) h14 hro (by omega) Bs w.heap.size b off len cap S hlen _ (by simp; omega) (by simp) hb ((hB0.cell (p := ⟨Bs, 0, none⟩) hBs).trans hcs) (fun j hj => (hB0.cell (p := ⟨b, off + j, none⟩) hb).trans (hc j hj)))
    belowK_t (belowK_b (by simp)) (Below.refl _ _) (fun _ => rfl)
    (fun pre W => (∃ v, Boxed W w.heap.size 23 v ∧ W.ownsRow w.heap.size 9 1 v pre.length (pre.map Value.string) ∧ True) ∧ Below w.heap.size w W)
    (fun _ _ _ => False)
    (OwnFrom.and (Own.from (holdsRow_own w.heap.size w.heap.size 23 9 1 (fun pre : List ByteArray => pre.length) (fun pre => pre.map Value.string) (fun _ _ => True)) _) (ownFrom_below (Nat.le_refl _) (by simp)))
    (fun _ _ _ _ _ hs _ _ => hs)
    ⟨⟨_, bO, World.ownsRow_nil _ _ _ _, trivial⟩, hB0⟩
    (fun x => { tmps := #[.slice none 0 0, .func (.func 14) #[] #[.pointer (some ⟨Bs, 0, none⟩)], .pointer (some ⟨w.heap.size, 0, none⟩), undef, .slice none 0 0, .string x, .func (.func 14) #[] #[.pointer (some ⟨Bs, 0, none⟩)], .string x, undef, undef, undef, undef, undef], defers := [] }) ?assign ?body ?done ?stop
  case assign =>
    intro l x W K hK
    gi_wp2
    exact hK
  case body =>
    rintro l pre x W ⟨⟨v, hv, hrow, _⟩, hB⟩ hlt
    have hcv := hv.cell
    gi_wp2_with (gi_at_builtin; refine wpListIn_append_own _ rfl _ _ 23 rfl w.heap.size 9 i0 (.string ByteArray.empty) 1 16 Yba.underlying23 hi hz0 hz1 hz2 rfl (by decide) _ _ _ rfl (hrow.alloc _) ⟨W.heap.size, 0, none⟩ 1 1 [.string x] rfl rfl (cell_one_new _ _ _) (by simp [Value.oneCell']) (by unfold maxLen; omega) (by omega) (by have := hB.size; simp; omega) ?_; intro v' w1 hown' hgrow _; obtain ⟨g', cap', rfl⟩ := ownsRow_succ hown'; obtain ⟨hv1, hv2, hr2, hk2, hb2⟩ := hv.appended (by decide) hrow hB.size (Nat.le_refl _) hown' hgrow; have hc1 := hv1.cell; have hf1 := hv1.frozen)
    exact ⟨hk2.from _, hb2, ⟨_, hv2, by simpa using hr2, trivial⟩, hB.trans hb2⟩
  case done =>
    rintro D ys W hD rfl ⟨⟨v, hv, hrow, _⟩, hB⟩ hK
    have hcv := hv.cell
    rw [upto_length] at hrow
    gi_wp2
    refine ⟨by simp, .inl ⟨_, _, rfl, run_takeDeferred hK, ?_⟩⟩
    exact ⟨_, results_tmp rfl _ _ _, v, rfl, ownsRow_putObj hrow _ hK rfl, hB.trans (belowK_b (w := w) (Nat.le_refl _) W D _ _ (by simp at hD; omega) hK rfl rfl)⟩
  case stop =>
    rintro D c pre W _ _ h _
    exact h.elim

set_option maxHeartbeats 1000000 in
/-- slices.Collect: AppendSeq onto nil. -/
theorem collect_in (F : Fence) (n : Nat) (h12 : F.fn 12) (h15 : F.fn 15) (h14 : F.fn 14) (hro : F.round = none) (hn : 4 ≤ n) (Bs b off len cap : Nat) (S : Nat → ByteArray) (hlen : len ≤ 4096) (w : World) (hBs : Bs < w.heap.size) (hb : b < w.heap.size)
    (hcs : w.cell? ⟨Bs, 0, none⟩ = some (.slice (some ⟨b, off, none⟩) len cap)) (hc : ∀ j, j < len → w.cell? ⟨b, off + j, none⟩ = some (.string (S j))) :
    CallsIn F n Yba.prog 12 #[.func (.func 14) #[] #[.pointer (some ⟨Bs, 0, none⟩)]] w fun e W' => ∃ v, e = .returned v ∧ W'.ownsRow w.heap.size 9 1 v len ((upto S len).map Value.string) ∧ Below w.heap.size w W' := by
  have h1 : 1 ≤ n := by omega
  have cA := appendSeq_in F (n - 1) h15 h14 hro (by omega) Bs b off len cap S hlen w hBs hb hcs hc
  have CA := hide cA
  clear cA hc
  refine callsIn_of_wp Yba.func12 rfl h12 ?_ hro
  simp only [Yba.ntmps12, List.size_toArray, List.length_cons, List.length_nil, Nat.reduceAdd, Nat.reduceSub, Array.replicate_succ, Array.replicate_zero, List.push_toArray, List.append_toArray, List.nil_append, List.cons_append]
  gi_wp2_with (gi_at_call 15; refine (unhide CA).mono ?_; rintro e w' ⟨v, rfl, hrow, hbe⟩)
  go_ret
  exact ⟨v, rfl, hrow, hbe⟩

end Go.Proofs.Ybulkbslg
