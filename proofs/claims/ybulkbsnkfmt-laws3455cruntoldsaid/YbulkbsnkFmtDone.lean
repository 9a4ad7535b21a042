/-
  Seat b3455aF: the closure 'done' (4).
-/
import Derived.Test.YbulkbsnkFmtStep
namespace Go.Proofs.YbulkbsnkFmt
open Go.RowKit
set_option linter.unusedVariables false

theorem info3 : (Ybaf.prog.info? 3).map (fun i => (i.zero, i.size, i.bytes)) = some (some (.int .i64 0), 1, 8) := by kernel_rfl
theorem info2 : (Ybaf.prog.info? 2).map (fun i => (i.zero, i.size, i.bytes)) = some (some (.int .i64 0), 1, 8) := by kernel_rfl

/-- What done has been told in m rounds. -/
structure Told (W : World) (RV BV SA base m : Nat) (stop : Int) (B : Nat → Int) (v1 v2 : Value) : Prop where
  rv : W.heap[RV]? = some (.cells #[v1] 26 (0, 0))
  bv : W.heap[BV]? = some (.cells #[v2] 37 (0, 0))
  sa : W.heap[SA]? = some (.cells #[.int .i64 stop] 3 (0, 0))
  r1 : W.ownsRow base 3 1 v1 m ((List.range m).map fun (i : Nat) => Value.int .i64 ((i : Int) + 1))
  r2 : W.ownsRow base 2 1 v2 m ((List.range m).map fun (i : Nat) => Value.int .i64 (B i))
  sb : SA < base

/-- Behind the first append the two variables and stopAt are as they were. -/
theorem told_after {w w1 : World} {RV BV SA base m : Nat} {stop : Int} {B : Nat → Int} {v1 v2 : Value} {o : Obj} (h : Told w RV BV SA base m stop B v1 v2) (hb : base ≤ w.heap.size) (hRB : RV < base) (hBB : BV < base) (hg : (w.alloc o).grownBy w1 v1.ownBlock) :
    w1.heap[RV]? = some (.cells #[v1] 26 (0, 0)) ∧ w1.heap[BV]? = some (.cells #[v2] 37 (0, 0)) ∧ w1.heap[SA]? = some (.cells #[.int .i64 stop] 3 (0, 0)) ∧ w1.ownsRow base 2 1 v2 m ((List.range m).map fun (i : Nat) => Value.int .i64 (B i)) ∧ Fr (fun b => v1.ownBlock = some b) w w1 := by
  have hfr : Fr (fun b => v1.ownBlock = some b) w w1 := by
    refine ⟨hg.os, hg.tape, hg.output, Nat.le_trans (by simp) hg.size, fun k hk hp => ?_⟩
    exact (hg.block k (by simp; omega) (fun e => hp e.symm)).trans (Below.heap_alloc _ _ _ hk)
  have hlow : ∀ b, b < base → ¬ v1.ownBlock = some b := fun b hb' e => by have := (h.r1.lt b e).1; omega
  refine ⟨(hfr.block RV (by omega) (hlow RV hRB)).trans h.rv, (hfr.block BV (by omega) (hlow BV hBB)).trans h.bv, (hfr.block SA (by have := h.sb; omega) (hlow SA h.sb)).trans h.sa, ?_, hfr⟩
  refine own_of h.r2 fun g hg2 => hfr.block g (h.r2.lt g hg2).2 fun e => ?_
  obtain ⟨c1, h1⟩ := own_type h.r1 e
  obtain ⟨c2, h2⟩ := own_type h.r2 hg2
  rw [h1] at h2
  cases h2

theorem size_set (w : World) (a : Addr) (y : Value) : (w.setCell a y).heap.size = w.heap.size := by simp [World.setCell]
theorem one_new_set (w : World) (a : Addr) (y x : Value) (t : TypeId) : ∀ j u, [x][j]? = some u → ((w.setCell a y).alloc (.cells #[x] t)).cell? ((⟨w.heap.size, 0, none⟩ : Addr).add j) = some u := by
  have h := cell_one_new (w.setCell a y) x t
  rw [size_set] at h
  exact h
theorem own_low {w : World} {base RV : Nat} {e : TypeId} {v y : Value} {n : Nat} {xs : List Value} (h : w.ownsRow base e 1 v n xs) (hR : RV < base) : (w.setCell ⟨RV, 0, none⟩ y).ownsRow base e 1 v n xs :=
  own_of h fun g hg => Below.heap_setCell _ _ _ _ (by have := (h.lt g hg).1; show g ≠ RV; omega)

theorem told_after2 {w1 w2 : World} {RV BV SA base m m' : Nat} {stop : Int} {v1 v2 x : Value} {xs ys : List Value} {o : Obj} (p1 : w1.heap[RV]? = some (.cells #[v1] 26 (0, 0))) (p2 : w1.heap[BV]? = some (.cells #[v2] 37 (0, 0))) (p3 : w1.heap[SA]? = some (.cells #[.int .i64 stop] 3 (0, 0)))
    (p4 : w1.ownsRow base 2 1 v2 m xs) (o1 : w1.ownsRow base 3 1 x m' ys) (hne : BV ≠ RV) (hnS : SA ≠ RV) (hRB : RV < base) (hBB : BV < base) (hSb : SA < base) (hg : ((w1.setCell ⟨RV, 0, none⟩ x).alloc o).grownBy w2 v2.ownBlock) :
    w2.heap[RV]? = some (.cells #[x] 26 (0, 0)) ∧ w2.heap[BV]? = some (.cells #[v2] 37 (0, 0)) ∧ w2.heap[SA]? = some (.cells #[.int .i64 stop] 3 (0, 0)) ∧ w2.ownsRow base 3 1 x m' ys ∧ Fr (fun b => b = RV ∨ v2.ownBlock = some b) w1 w2 := by
  have hlow : ∀ b, b < base → ¬ v2.ownBlock = some b := fun b hb' e => by have := (p4.lt b e).1; omega
  have hfr : Fr (fun b => v2.ownBlock = some b) (w1.setCell ⟨RV, 0, none⟩ x) w2 := by
    refine ⟨hg.os, hg.tape, hg.output, Nat.le_trans (by simp) hg.size, fun k hk hp => ?_⟩
    exact (hg.block k (by simp only [World.size_alloc]; omega) (fun e => hp e.symm)).trans (Below.heap_alloc _ _ _ hk)
  have hs := size_set w1 ⟨RV, 0, none⟩ x
  have l1 := block_lt p1
  have l2 := block_lt p2
  have l3 := block_lt p3
  refine ⟨?_, ?_, ?_, ?_, ?_⟩
  · refine (hfr.block RV (by omega) (hlow RV hRB)).trans ?_
    rw [heap_setCell_same w1 RV 0 _ 26 _ p1]; rfl
  · exact (hfr.block BV (by omega) (hlow BV hBB)).trans ((Below.heap_setCell _ _ _ _ (show BV ≠ RV from hne)).trans p2)
  · exact (hfr.block SA (by omega) (hlow SA hSb)).trans ((Below.heap_setCell _ _ _ _ (show SA ≠ RV from hnS)).trans p3)
  · refine own_of (own_low o1 hRB) fun g hg2 => hfr.block g (by have := (o1.lt g hg2).2; omega) fun e => ?_
    obtain ⟨c1, h1⟩ := own_type o1 hg2
    obtain ⟨c2, h2⟩ := own_type p4 e
    rw [h1] at h2
    cases h2
  · exact (Fr.set (p := fun b => b = RV ∨ v2.ownBlock = some b) (.inl rfl)).trans (hfr.mono fun b _ h => .inr h)

set_option maxRecDepth 100000 in
set_option maxHeartbeats 600000 in
theorem done_walk (RV BV SA base m : Nat) (stop : Int) (B : Nat → Int) (v1 v2 : Value) (w : World) (hm : m ≤ 1000) (hT : Told w RV BV SA base m stop B v1 v2) (hb : base ≤ w.heap.size) (hRB : RV < base) (hBB : BV < base) :
    Calls Ybaf.prog 4 #[.int .i64 ((m : Int) + 1), .int .i64 (B m), .pointer (some ⟨RV, 0, none⟩), .pointer (some ⟨BV, 0, none⟩), .pointer (some ⟨SA, 0, none⟩)] w fun e w' =>
      e = .returned (.bool ((m : Int) + 1 == stop)) ∧ ∃ v1' v2', Told w' RV BV SA base (m + 1) stop B v1' v2' ∧ Fr (fun b => b = RV ∨ b = BV ∨ v1.ownBlock = some b ∨ v2.ownBlock = some b) w w' := by
  obtain ⟨i3, h3i, h3z, h3s, h3b⟩ := info_parts info3
  obtain ⟨i2, h2i, h2z, h2s, h2b⟩ := info_parts info2
  have c1 : w.cell? ⟨RV, 0, none⟩ = some v1 := by simp [World.cell?, hT.rv]
  have f1 : w.frozen? ⟨RV, 0, none⟩ = false := by simp [World.frozen?, hT.rv]
  have HT := hide hT
  clear hT
  go_enter Ybaf.func4, Ybaf.ntmps4
  go_wp2_with (first | (at_builtin; refine wpList_append_lies _ rfl (.tmp 8) (.tmp 10) 26 rfl base 3 i3 _ 1 8 Ybaf.underlying26 h3i h3z h3s h3b rfl (by decide) v1 m _ rfl ((unhide HT).r1.alloc _) ⟨w.heap.size, 0, none⟩ 1 1 [.int .i64 ((m : Int) + 1)] rfl rfl (cell_one_new _ _ _) (by intro u hu; rw [List.mem_singleton] at hu; rw [hu]; rfl) (by omega) (by unfold maxLen; omega) (by omega) (by simp only [World.size_alloc]; omega) _ rfl ?_; intro g1 cp1 w1 ho1 hg1 ha1 hl1; obtain ⟨p1, p2, p3, p4, p5⟩ := told_after (unhide HT) hb hRB hBB hg1; have q1 : w1.cell? ⟨RV, 0, none⟩ = some v1 := (by simp [World.cell?, p1]); have q2 : w1.frozen? ⟨RV, 0, none⟩ = false := (by simp [World.frozen?, p1]); have hne : BV ≠ RV := (fun e => by rw [e, p1] at p2; cases p2); have hnS : SA ≠ RV := (fun e => by rw [e, p1] at p3; cases p3); have q3 : w1.cell? ⟨BV, 0, none⟩ = some v2 := (by simp [World.cell?, p2]); have P1 := hide p1; have P2 := hide p2; have P3 := hide p3; have P4 := hide p4; have P5 := hide p5; have O1 := hide ho1; clear p1 p2 p3 p4 p5 ho1 hg1) | (at_builtin; refine wpList_append_lies _ rfl (.tmp 12) (.tmp 14) 37 rfl base 2 i2 _ 1 8 Ybaf.underlying37 h2i h2z h2s h2b rfl (by decide) v2 m _ rfl ((own_low (unhide P4) hRB).alloc _) ⟨w1.heap.size, 0, none⟩ 1 1 [.int .i64 (B m)] rfl rfl (one_new_set _ _ _ _ _) (by intro u hu; rw [List.mem_singleton] at hu; rw [hu]; rfl) (by omega) (by unfold maxLen; omega) (by omega) (by simp only [World.size_alloc, size_set]; have := (unhide P5).size; omega) _ rfl ?_; intro g2 cp2 w2 ho2 hg2 ha2 hl2; obtain ⟨r1, r2, r3, r4, r5⟩ := told_after2 (unhide P1) (unhide P2) (unhide P3) (unhide P4) (unhide O1) hne hnS hRB hBB (unhide HT).sb hg2; have s1 : w2.cell? ⟨BV, 0, none⟩ = some v2 := (by simp [World.cell?, r2]); have s2 : w2.frozen? ⟨BV, 0, none⟩ = false := (by simp [World.frozen?, r2]); have hSB : SA ≠ BV := (fun e => by rw [e, r2] at r3; cases r3); have s3 : w2.cell? ⟨SA, 0, none⟩ = some (.int .i64 stop) := (by simp [World.cell?, r3]); have R1 := hide r1; have R2 := hide r2; have R3 := hide r3; have R4 := hide r4; have R5 := hide r5; have O2 := hide ho2; clear r1 r2 r3 r4 r5 ho2 hg2))
  go_ret
  refine ⟨rfl, .slice (some ⟨g1, 0, none⟩) (m + 1) cp1, .slice (some ⟨g2, 0, none⟩) (m + 1) cp2, ⟨?_, ?_, ?_, ?_, ?_, (unhide HT).sb⟩, ?_⟩
  · exact (Below.heap_setCell _ _ _ _ (show RV ≠ BV from fun e => hne e.symm)).trans (unhide R1)
  · rw [heap_setCell_same w2 BV 0 _ 37 _ (unhide R2)]; rfl
  · exact (Below.heap_setCell _ _ _ _ (show SA ≠ BV from hSB)).trans (unhide R3)
  · have := own_low (y := .slice (some ⟨g2, 0, none⟩) (m + 1) cp2) (unhide R4) hBB
    rw [List.range_succ, List.map_append]
    exact this
  · have := own_low (y := .slice (some ⟨g2, 0, none⟩) (m + 1) cp2) (unhide O2) hBB
    rw [List.range_succ, List.map_append]
    exact this
  · exact (((unhide P5).mono fun b _ h => .inr (.inr (.inl h))).trans ((unhide R5).mono fun b _ h => h.elim .inl (fun h => .inr (.inr (.inr h))))).trans (Fr.set (.inr (.inl rfl)))

end Go.Proofs.YbulkbsnkFmt
