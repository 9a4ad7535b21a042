/-
  Seat b3453a: the walk of LawS3453AOneStep (function 4).
-/
import Derived.Test.YbulkbsmiName
namespace Go.Proofs.Ybulkbsmi
open Go.RowKit
set_option linter.unusedVariables false

/-- A new chunk's zero takers. -/
def zCells (c : Nat) : Array Value := madeCells #[.string ByteArray.empty, .int .i64 0, .pointer none, .int .i64 0, .int .i64 0, .pointer none, .int .i64 0] (c * 7)

theorem range_flat : ∀ l : Nat, (List.range (l * 7)).map (fun i => (#[Value.string ByteArray.empty, .int .i64 0, .pointer none, .int .i64 0, .int .i64 0, .pointer none, .int .i64 0] : Array Value)[i % 7]!) = flatRow (fun _ => ByteArray.empty) l
  | 0 => rfl
  | l + 1 => by
    rw [show (l + 1) * 7 = l * 7 + 7 from by omega, List.range_add, List.map_append, range_flat l, flatRow_succ]
    congr 1
    simp [List.range_succ, tk, Nat.mul_comm l 7]

theorem zCells_take (c l : Nat) (h : l ≤ c) : (zCells c).toList.take (l * 7) = flatRow (fun _ => ByteArray.empty) l := by
  unfold zCells madeCells
  rw [Array.toList_map, Array.toList_range, ← List.map_take, List.take_range, ← range_flat l]
  congr 1
  congr 1
  omega

theorem run_mk2 (l c : Nat) (h : l ≤ c) (hc : c ≤ 16) (W : World) : (Instr.makeSlice 36 (.int .i64 (l : Int)) (.int .i64 (c : Int))).run Yba.prog W = .ok (.slice (some ⟨W.heap.size, 0, none⟩) l c) (W.alloc (.cells (zCells c) 35)) := by
  obtain ⟨i0, hi, hz0, hz1, hz2⟩ := info_parts info35
  have h := run_make (P := Yba.prog) W 36 35 i0 _ Yba.underlying36 hi hz0 .i64 .i64 l c (by omega) (by omega) (by rw [hz2]; omega) (by omega)
  rw [hz1] at h
  exact h

/-- The run as the law builds it. -/
theorem lr_one (w : World) (l c T : Nat) (h : l ≤ c) (hc : c ≤ 16) :
    LR w.heap.size (((w.alloc (.cells (zCells c) 35)).alloc (.cells #[.slice (some ⟨w.heap.size, 0, none⟩) l c] 36)).alloc (.cells (lrCells (.slice (some ⟨w.heap.size + 1, 0, none⟩) 1 1) T) 32)) (w.heap.size + 2) (.slice (some ⟨w.heap.size + 1, 0, none⟩) 1 1) [⟨w.heap.size, l, c, fun _ => ByteArray.empty⟩] T := by
  have b0 : (((w.alloc (.cells (zCells c) 35)).alloc (.cells #[.slice (some ⟨w.heap.size, 0, none⟩) l c] 36)).alloc (.cells (lrCells (.slice (some ⟨w.heap.size + 1, 0, none⟩) 1 1) T) 32)).heap[w.heap.size]? = some (.cells (zCells c) 35 (0, 0)) :=
    (Below.heap_alloc _ _ _ (by simp; omega)).trans ((Below.heap_alloc _ _ _ (by simp)).trans (heap_alloc_new w _))
  have b1 : (((w.alloc (.cells (zCells c) 35)).alloc (.cells #[.slice (some ⟨w.heap.size, 0, none⟩) l c] 36)).alloc (.cells (lrCells (.slice (some ⟨w.heap.size + 1, 0, none⟩) 1 1) T) 32)).heap[w.heap.size + 1]? = some (.cells #[.slice (some ⟨w.heap.size, 0, none⟩) l c] 36 (0, 0)) :=
    (Below.heap_alloc _ _ _ (by simp)).trans (new_at _ _ (by simp))
  refine ⟨new_at _ _ (by simp), by omega, ⟨rfl, .inr ⟨w.heap.size + 1, 1, _, rfl, by omega, b1, Nat.le_refl _, by unfold maxLen; omega, rfl, rfl⟩⟩, ?_, by simp⟩
  intro ch hch
  have : ch = ⟨w.heap.size, l, c, fun _ => ByteArray.empty⟩ := by simpa using hch
  subst this
  have hlen : (flatRow (fun _ => ByteArray.empty) l).length = l * 7 := by
    rw [← range_flat]; simp
  exact ⟨hlen, .inr ⟨w.heap.size, c, zCells c, rfl, Nat.le_refl _, b0, h, by unfold maxLen; omega, by simp [zCells, size_madeCells], zCells_take c l h⟩⟩

theorem one_cap (g l c : Nat) (nm : Nat → ByteArray) (hc : c ≤ 16) : ∀ ch ∈ [(⟨g, l, c, nm⟩ : Ch)], ch.cap < 100000 := by
  intro ch hch
  have : ch = ⟨g, l, c, nm⟩ := by simpa using hch
  subst this
  show c < 100000
  omega

set_option maxRecDepth 100000 in
set_option maxHeartbeats 400000 in
theorem step_walk (T c0 l0 : Nat) (a1 a2 : Int) (nm : ByteArray) (w : World) (hT : T ≤ 4294967295) (h1 : 0 ≤ a1) (h1' : a1 ≤ 255) (h2 : 0 ≤ a2) (h2' : a2 ≤ 255) (hc : a1 % 16 = (c0 : Int)) (hl : a2 % ((c0 : Int) + 1 + 1) = (l0 : Int)) (hc15 : c0 ≤ 15) (hlc : l0 ≤ c0 + 1) :
    Calls Yba.prog 4 #[.int .u32 T, .int .u8 a1, .int .u8 a2, .string nm] w fun e w' => e = .returned (.bool true) ∧ Below w.heap.size w w' := by
  have hmk : ∀ W : World, (Instr.makeSlice 36 (.int .i64 (l0 : Int)) (.int .i64 ((c0 : Int) + 1))).run Yba.prog W = .ok (.slice (some ⟨W.heap.size, 0, none⟩) l0 (c0 + 1)) (W.alloc (.cells (zCells (c0 + 1)) 35)) := fun W => run_mk2 l0 (c0 + 1) hlc (by omega) W
  go_enter Yba.func4, Yba.ntmps4
  go_wp2_with fail
  have hk := keep_any w.heap.size (w.heap.size + 2) nm _ _ T _ (lr_one w l0 (c0 + 1) T hlc (by omega)) (by omega) (by simp) (one_cap _ _ _ _ (by omega))
  refine hk.mono ?_
  rintro e w1 ⟨rfl, tv, chs', hLR, hNx, hb1⟩
  have hbe : Below w.heap.size w w1 := (((Below.refl _ w).alloc (Nat.le_refl _) _).alloc (by simp) _).alloc (by simp; omega) _ |>.trans hb1
  clear hk hb1
  obtain ⟨⟨hc9, hc10⟩, _, hLs⟩ := lr_facts hLR.lr
  by_cases hlt : l0 < c0 + 1
  · -- in place
    have hch : chs' = [Ch.add ⟨w.heap.size, l0, c0 + 1, fun _ => ByteArray.empty⟩ nm] := by
      rcases hNx with ⟨pre, ch, he, hcl, rfl⟩ | ⟨hf, g, rfl⟩
      · have he' : [] ++ [(⟨w.heap.size, l0, c0 + 1, fun _ => ByteArray.empty⟩ : Ch)] = pre ++ [ch] := he
        obtain ⟨e1, e2⟩ := List.append_inj' he' rfl
        subst e1
        have : ch = ⟨w.heap.size, l0, c0 + 1, fun _ => ByteArray.empty⟩ := by simpa using e2.symm
        subst this; rfl
      · exfalso
        rcases hf with hf | ⟨pre, ch, he, hcl⟩
        · cases hf
        · have he' : [] ++ [(⟨w.heap.size, l0, c0 + 1, fun _ => ByteArray.empty⟩ : Ch)] = pre ++ [ch] := he
          obtain ⟨e1, e2⟩ := List.append_inj' he' rfl
          have : ch = ⟨w.heap.size, l0, c0 + 1, fun _ => ByteArray.empty⟩ := by simpa using e2.symm
          subst this
          have : l0 = c0 + 1 := hcl
          omega
    subst hch
    obtain ⟨ob, oc, rfl⟩ : ∃ ob oc, tv = .slice (some ⟨ob, 0, none⟩) 1 oc := by
      rcases hLR.outer.2 with ⟨_, h0⟩ | ⟨g, cap, cur, e, _⟩
      · simp at h0
      · exact ⟨g, cap, e⟩
    have hcell : w1.cell? ⟨ob, 0, none⟩ = some (.slice (some ⟨w.heap.size, 0, none⟩) (l0 + 1) (c0 + 1)) := (hLR.outer.cellAt 0 (by simp)).trans rfl
    have hname : w1.cell? ⟨w.heap.size, l0 * 7, none⟩ = some (.string nm) := by
      have := name_cell (hLR.rows _ (List.mem_singleton.2 rfl)) l0 (by show l0 < l0 + 1; omega)
      simpa [Ch.add] using this
    clear hLR hNx
    go_wp2_with fail
    go_ret
    exact ⟨by simp, hbe⟩
  · -- a second chunk
    have hl2 : l0 = c0 + 1 := by omega
    obtain ⟨g, hch⟩ : ∃ g, chs' = [⟨w.heap.size, l0, c0 + 1, fun _ => ByteArray.empty⟩, ⟨g, 1, newCap T, fun _ => nm⟩] := by
      rcases hNx with ⟨pre, ch, he, hcl, rfl⟩ | ⟨hf, g, rfl⟩
      · exfalso
        have he' : [] ++ [(⟨w.heap.size, l0, c0 + 1, fun _ => ByteArray.empty⟩ : Ch)] = pre ++ [ch] := he
        obtain ⟨e1, e2⟩ := List.append_inj' he' rfl
        have : ch = ⟨w.heap.size, l0, c0 + 1, fun _ => ByteArray.empty⟩ := by simpa using e2.symm
        subst this
        have : l0 < c0 + 1 := hcl
        omega
      · exact ⟨g, rfl⟩
    subst hch
    obtain ⟨ob, oc, rfl⟩ : ∃ ob oc, tv = .slice (some ⟨ob, 0, none⟩) 2 oc := by
      rcases hLR.outer.2 with ⟨_, h0⟩ | ⟨g, cap, cur, e, _⟩
      · simp at h0
      · exact ⟨g, cap, e⟩
    have hcell : w1.cell? ⟨ob, 0, none⟩ = some (.slice (some ⟨w.heap.size, 0, none⟩) l0 (c0 + 1)) := (hLR.outer.cellAt 0 (by simp)).trans rfl
    have hcell1 : w1.cell? ⟨ob, 1, none⟩ = some (.slice (some ⟨g, 0, none⟩) 1 (newCap T)) := (hLR.outer.cellAt 1 (by simp)).trans rfl
    have hname : w1.cell? ⟨g, 0, none⟩ = some (.string nm) := by
      have := name_cell (hLR.rows ⟨g, 1, newCap T, fun _ => nm⟩ (by simp)) 0 (by show 0 < 1; omega)
      simpa using this
    have e1 : ((newCap T : Int) == (if (4096 : Int) < (if (8 : Int) < (T : Int) then (T : Int) else 8) then (4096 : Int) else if (8 : Int) < (T : Int) then (T : Int) else 8)) = true := by rw [newCap_eq]; simp
    clear hLR hNx hl2
    go_wp2_with fail
    all_goals go_ret
    all_goals exact ⟨by simp, hbe⟩

theorem step_any (a0 a1 a2 : Int) (nm : ByteArray) (w : World) (h0 : 0 ≤ a0) (h0' : a0 ≤ 4294967295) (h1 : 0 ≤ a1) (h1' : a1 ≤ 255) (h2 : 0 ≤ a2) (h2' : a2 ≤ 255) :
    Calls Yba.prog 4 #[.int .u32 a0, .int .u8 a1, .int .u8 a2, .string nm] w fun e w' => e = .returned (.bool true) ∧ Below w.heap.size w w' := by
  obtain ⟨T, rfl⟩ := Int.eq_ofNat_of_zero_le h0
  obtain ⟨c0, hc⟩ : ∃ c : Nat, a1 % 16 = (c : Int) := ⟨(a1 % 16).toNat, by omega⟩
  have hp : (0 : Int) < (c0 : Int) + 1 + 1 := by omega
  have hm0 := Int.emod_nonneg a2 (show (c0 : Int) + 1 + 1 ≠ 0 by omega)
  have hm1 := Int.emod_lt_of_pos a2 hp
  obtain ⟨l0, hl⟩ : ∃ l : Nat, a2 % ((c0 : Int) + 1 + 1) = (l : Int) := ⟨(a2 % ((c0 : Int) + 1 + 1)).toNat, by omega⟩
  exact step_walk T c0 l0 a1 a2 nm w (by omega) h1 h1' h2 h2' hc hl (by omega) (by omega)

end Go.Proofs.Ybulkbsmi
