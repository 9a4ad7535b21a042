/-
  Seat b3453aF: the walk of LawS3453CDigits (function 4).
-/
import Derived.Test.YbulkbsmiFmtHex
import Derived.Laws.Tables
namespace Go.Proofs.YbulkbsmiFmt
open Go.RowKit
set_option linter.unusedVariables false

theorem info5 : (Ybaf.prog.info? 5).map (fun i => (i.zero, i.size, i.bytes)) = some (some (.int .u8 0), 1, 1) := by kernel_rfl

/-- The rest of a new decoder's cells. -/
def tl29 : Array Value := #[.slice none 0 0, .slice none 0 0, .slice none 0 0] ++ Array.replicate 64 (.string ⟨#[]⟩)

set_option maxRecDepth 100000 in
theorem built29 (a : Option Addr) (n c : Nat) (off : Int) : Ybaf.prog.built 29 [(0, .slice a n c), (1, .int .i64 off)] = some (#[.slice a n c, .int .i64 off] ++ tl29) := by kernel_rfl

theorem wpList_build_is {P : Program} {ops : Array Oper} {rest : List Oper} {o : Oper} {a : Act} {w : World} {Q : Exit → Act → World → Prop} (hg : o.guard = none) (t : TypeId) (parts : Array (Nat × Operand)) (ho : o.op = .build t parts)
    (ps : List (Nat × Value)) (hp' : parts.toList.map (fun (i, x) => (i, a.eval x)) = ps) (cells : Array Value) (hb : P.built t ps = some cells)
    (h : wpList P ops Q rest (a.put o.dst (.agg cells)) w) : wpList P ops Q (o :: rest) a w := by
  have hp : (parts.map fun (i, x) => (i, a.eval x)).toList = ps := by rw [Array.toList_map]; exact hp'
  refine wpList_build hg t parts ho (by rw [hp, hb]; rfl) ?_
  rw [hp, hb]
  exact h

theorem heap_alloc_new (w : World) (o : Obj) : (w.alloc o).heap[w.heap.size]? = some o := by
  unfold World.alloc
  simp only [Array.getElem?_push_size]

theorem Dec.below {w wr : World} {D B : Nat} {sv : Value} {off : Nat} {tl : Array Value} (h : Dec w wr D sv off tl) (hB : B ≤ D) : Below B w wr :=
  ⟨h.os, h.tape, h.output, Nat.le_of_eq h.size.symm, fun k hk => h.rest k (by omega)⟩

/-- A slice of bytes that came in. -/
def ArgB (w : World) (a : Option Addr) (len cap : Nat) (P : Nat → Int) : Prop :=
  (a = none ∧ len = 0 ∧ cap = 0) ∨ ∃ ad, a = some ad ∧ ∀ j, j < len → w.cell? (ad.add j) = some (.int .u8 (P j)) ∧ 0 ≤ P j ∧ P j ≤ 255

/-- The n numbers of Z from s on, as bytes. -/
def seg (Z : Nat → Int) (s n : Nat) : List Value := (List.range n).map fun j => .int .u8 (Z (s + j))
theorem seg_length (Z : Nat → Int) (s n : Nat) : (seg Z s n).length = n := by simp [seg]
theorem seg_succ (Z : Nat → Int) (n : Nat) : seg Z 0 (n + 1) = seg Z 0 n ++ [.int .u8 (Z n)] := by simp [seg, List.range_succ]
theorem seg_join (Z : Nat → Int) (n : Nat) : ∀ m, seg Z 0 n ++ seg Z n m = seg Z 0 (n + m)
  | 0 => by simp [seg]
  | m + 1 => by
    have e : seg Z n (m + 1) = seg Z n m ++ [.int .u8 (Z (n + m))] := by simp [seg, List.range_succ]
    rw [e, ← List.append_assoc, seg_join Z n m, ← Nat.add_assoc, seg_succ]
theorem seg_one (Z : Nat → Int) (s n : Nat) : ∀ u ∈ seg Z s n, u.oneCell' = true := by
  intro u hu
  simp only [seg, List.mem_map] at hu
  obtain ⟨j, _, rfl⟩ := hu
  rfl

theorem arg_news {w wm : World} {a : Option Addr} {len cap : Nat} {P : Nat → Int} (h : ArgB w a len cap P) (hb : Below w.heap.size w wm) (Z : Nat → Int) (s : Nat) (hZ : ∀ j, j < len → Z (s + j) = P j) :
    (a = none → len = 0 ∧ cap = 0) ∧ ∀ ad, a = some ad → ∀ j u, (seg Z s len)[j]? = some u → wm.cell? (ad.add j) = some u := by
  rcases h with ⟨rfl, rfl, rfl⟩ | ⟨ad, rfl, hc⟩
  · exact ⟨fun _ => ⟨rfl, rfl⟩, fun ad e => by cases e⟩
  · refine ⟨fun e => (by cases e), fun ad' e j u hu => ?_⟩
    cases e
    have hj : j < len := by
      have := (List.getElem?_eq_some_iff.1 hu).1
      rwa [seg_length] at this
    have hu' : u = .int .u8 (P j) := by
      simp only [seg, List.getElem?_map, List.getElem?_range hj, Option.map_some, Option.some.injEq] at hu
      rw [← hu, hZ j hj]
    rw [hu', ← (hc j hj).1]
    exact hb.cell (World.block_lt_of_cell? w _ (hc j hj).1)

/-- The table's k-th byte. -/
def tabB (k : Nat) : Int := if k < 10 then 48 + k else if k < 16 then 97 + (k - 10 : Nat) else 65 + (k - 16 : Nat)

/-- All that buf holds. -/
def Zof (len0 : Nat) (P : Nat → Int) (X : Nat → Int) (S : Nat → Int) (j : Nat) : Int := if j < len0 then P j else if j < len0 + 4 then tabB (X (j - len0) % 22).toNat else S (j - (len0 + 4))

theorem dig_cell (w : World) (X : Nat → Int) (k : Nat) (h : k < 4) : (w.alloc (.cells #[.int .u8 (X 0), .int .u8 (X 1), .int .u8 (X 2), .int .u8 (X 3)] 38)).cell? ⟨w.heap.size, k, none⟩ = some (.int .u8 (X k)) := by
  match k, h with
  | 0, _ => simp
  | 1, _ => simp
  | 2, _ => simp
  | 3, _ => simp

theorem tab_byte (q : Nat) (h : q < (ByteArray.mk #[48, 49, 50, 51, 52, 53, 54, 55, 56, 57, 97, 98, 99, 100, 101, 102, 65, 66, 67, 68, 69, 70]).size) :
    (((ByteArray.mk #[48, 49, 50, 51, 52, 53, 54, 55, 56, 57, 97, 98, 99, 100, 101, 102, 65, 66, 67, 68, 69, 70])[q]'h).toNat : Int) = tabB q := by
  have h' : q < 22 := h
  match q, h' with
  | 0, _ => rfl | 1, _ => rfl | 2, _ => rfl | 3, _ => rfl | 4, _ => rfl | 5, _ => rfl | 6, _ => rfl | 7, _ => rfl
  | 8, _ => rfl | 9, _ => rfl | 10, _ => rfl | 11, _ => rfl | 12, _ => rfl | 13, _ => rfl | 14, _ => rfl | 15, _ => rfl
  | 16, _ => rfl | 17, _ => rfl | 18, _ => rfl | 19, _ => rfl | 20, _ => rfl | 21, _ => rfl
  | n + 22, hn => exact absurd hn (by omega)

theorem tab_hex (q : Nat) (h' : q < 22) : hexV (tabB q) = (if 16 ≤ q then (q : Int) - 6 else q) := by
  match q, h' with
  | 0, _ => rfl | 1, _ => rfl | 2, _ => rfl | 3, _ => rfl | 4, _ => rfl | 5, _ => rfl | 6, _ => rfl | 7, _ => rfl
  | 8, _ => rfl | 9, _ => rfl | 10, _ => rfl | 11, _ => rfl | 12, _ => rfl | 13, _ => rfl | 14, _ => rfl | 15, _ => rfl
  | 16, _ => rfl | 17, _ => rfl | 18, _ => rfl | 19, _ => rfl | 20, _ => rfl | 21, _ => rfl
  | n + 22, hn => exact absurd hn (by omega)

theorem tab_range (q : Nat) (h : q < 22) : 0 ≤ tabB q ∧ tabB q ≤ 255 := by
  unfold tabB
  split
  · omega
  · split
    · omega
    · omega
theorem ArgB.range {w : World} {a : Option Addr} {len cap : Nat} {P : Nat → Int} (h : ArgB w a len cap P) (j : Nat) (hj : j < len) : 0 ≤ P j ∧ P j ≤ 255 := by
  rcases h with ⟨rfl, rfl, rfl⟩ | ⟨ad, rfl, hc⟩
  · omega
  · exact (hc j hj).2

set_option maxRecDepth 100000 in
set_option maxHeartbeats 400000 in
theorem digits_walk (a0 a2 : Option Addr) (len0 cap0 len2 cap2 : Nat) (P S : Nat → Int) (X : Nat → Int) (w : World) (h0 : len0 ≤ 1024) (h2 : len2 ≤ 1024) (hX : ∀ j, j < 4 → 0 ≤ X j ∧ X j ≤ 255) (hA : ArgB w a0 len0 cap0 P) (hB : ArgB w a2 len2 cap2 S) :
    Calls Ybaf.prog 4 #[.slice a0 len0 cap0, .agg #[.int .u8 (X 0), .int .u8 (X 1), .int .u8 (X 2), .int .u8 (X 3)], .slice a2 len2 cap2] w fun e w' => e = .returned (.bool true) ∧ Below w.heap.size w w' := by
  obtain ⟨i0, hi, hz0, hz1, hz2⟩ := info_parts info5
  have HA := hide hA
  have HB := hide hB
  clear hA hB
  have d0 : decide ((1024 : Int) < (len0 : Int)) = false := by simp; omega
  have d1 : decide ((1024 : Int) < (len2 : Int)) = false := by simp; omega
  go_enter Ybaf.func4, Ybaf.ntmps4
  obtain ⟨Z, hZ⟩ : ∃ Z, Z = Zof len0 P X S := ⟨_, rfl⟩
  have z0 : ∀ j, j < len0 → Z (0 + j) = P j := fun j hj => by rw [hZ, Nat.zero_add]; simp [Zof, hj]
  have z1 : ∀ j, j < 4 → Z (len0 + j) = tabB (X j % 22).toNat := fun j hj => by rw [hZ]; unfold Zof; rw [if_neg (by omega), if_pos (by omega), Nat.add_sub_cancel_left]
  have z2 : ∀ j, j < len2 → Z (len0 + 4 + j) = S j := fun j hj => by
    rw [hZ]; unfold Zof; rw [if_neg (by omega), if_neg (by omega)]; congr 1; omega
  have Hz0 := hide z0
  have Hz1 := hide z1
  have Hz2 := hide z2
  have HX := hide hX
  clear hZ z0 z1 z2 hX
  go_wp2_with (first | (at_make; refine wpList_make_own _ rfl _ _ 22 rfl (w.heap.size + 1) 5 i0 _ 1 Ybaf.underlying22 hi hz0 hz1 _ _ _ (len0 + 4 + len2) rfl rfl (by omega) (by rw [hz2]; omega) (by unfold maxLen; omega) (by simp) ?_; intro wm hown hgm; simp only [World.size_alloc] at hown; have hbA : Below (w.heap.size + 1) (w.alloc (.cells #[.int .u8 (X 0), .int .u8 (X 1), .int .u8 (X 2), .int .u8 (X 3)] 38)) wm := (Below.refl _ _).grown hgm (by simp) (by simp); have hbw : Below w.heap.size w wm := ((Below.refl _ w).alloc (Nat.le_refl _) _).trans (hbA.mono (Nat.le_succ _)); obtain ⟨hn1, hn2⟩ := arg_news (unhide HA) hbw Z 0 (unhide Hz0)) | (at_builtin; refine wpList_append_fits_any _ rfl (.tmp 30) (.tmp 31) 22 rfl (w.heap.size + 1) 5 i0 1 Ybaf.underlying22 hi hz1 (w.heap.size + 1) 0 (len0 + 4 + len2) [] rfl hown a0 len0 cap0 (seg Z 0 len0) rfl (by rw [seg_length]; omega) hn1 hn2 (seg_one _ _ _) (by omega) ?_; intro w2 hown2 hg2; simp only [Nat.zero_add, List.nil_append] at hown2))
  have hbA2 := hbA.grown hg2 (by have := hbA.size; simp at this; omega) (fun k e => by cases e; exact Nat.le_refl _)
  clear hg2 hown hbA hbw hn1 hn2 hgm
  go_loopw [7, 8, 9] (fun v r i wr => ∃ k : Nat, k ≤ 4 ∧ i = .int .i64 k ∧ v = .slice (some ⟨w.heap.size + 1, 0, none⟩) (len0 + k) (len0 + 4 + len2) ∧ r = .int .i32 (acc Z len0 k) ∧ (∀ j, j < k → 0 ≤ hexV (Z (len0 + j))) ∧ wr.ownsRow (w.heap.size + 1) 5 1 (.slice (some ⟨w.heap.size + 1, 0, none⟩) (len0 + k) (len0 + 4 + len2)) (len0 + k) (seg Z 0 (len0 + k)) ∧ Below (w.heap.size + 1) (w.alloc (.cells #[.int .u8 (X 0), .int .u8 (X 1), .int .u8 (X 2), .int .u8 (X 3)] 38)) wr) (fun _ _ i _ => 4 - (intOf i).toNat)
  case atStart => exact ⟨0, by omega, rfl, rfl, rfl, fun j hj => by omega, hown2, hbA2⟩
  case round =>
    clear hown2 hbA2
    obtain ⟨k, hk, rfl, rfl, rfl, hhx, hrow, hbe⟩ := hrel
    by_cases hlt : k < 4
    · have hcx := (hbe.cell (p := ⟨w.heap.size, k, none⟩) (by simp)).trans (dig_cell w X k hlt)
      obtain ⟨hx0, hx1⟩ := (unhide HX) k hlt
      have hacc := acc_le hhx hk
      have hzk := (unhide Hz1) k hlt
      have Hacc : Hid (acc Z len0 (k + 1) = acc Z len0 k * 16 + hexV (Z (len0 + k))) := hide rfl
      obtain ⟨q, hq⟩ : ∃ q : Nat, X k % 22 = (q : Int) := ⟨(X k % 22).toNat, by omega⟩
      have hq22 : q < 22 := by omega
      rw [hq, Int.toNat_natCast] at hzk
      have Hzk := hide hzk
      have Hhx := hide hhx
      generalize hRR : acc Z len0 k = R at hacc Hacc ⊢
      clear hzk hhx hRR
      obtain ⟨hR0, hR1⟩ := hacc
      have hv := tab_hex q hq22
      rw [← unhide Hzk] at hv
      have Hv := hide hv
      clear hv
      go_wp2_with ((at_builtin; refine wpList_append_fits _ rfl (.tmp 42) (.tmp 45) 22 rfl (w.heap.size+1) 5 i0 1 Ybaf.underlying22 hi hz1 (w.heap.size+1) (len0+k) (len0+4+len2) _ rfl (hrow.alloc _) ⟨wr.heap.size,0,none⟩ 1 1 _ rfl rfl (cell_one_new _ _ _) (by intro u hu; rw [List.mem_singleton] at hu; rw [hu]; rfl) (by omega) ?_; intro w1 hown1 hg1; rw [tab_byte, ← unhide Hzk, ← seg_succ] at hown1))
      all_goals
        refine ⟨⟨k + 1, by omega, by go_num, rfl, congrArg (Value.int .i32) ?_, fun j hj => ?_, hown1, ?_⟩, ?_⟩
        · rw [unhide Hacc, unhide Hv]
          first | rw [if_pos (by omega)] | rw [if_neg (by omega)]
        · by_cases hjk : j < k
          · exact (unhide Hhx) j hjk
          · obtain rfl : j = k := by omega
            rw [unhide Hv]
            split <;> omega
        · have hsz := hbe.size
          simp only [World.size_alloc] at hsz
          exact (hbe.alloc hsz _).grown hg1 (by simp only [World.size_alloc]; omega) (fun k e => by cases e; exact Nat.le_refl _)
        · simp [intOf]; omega
    · obtain rfl : k = 4 := by omega
      have hbw : Below w.heap.size w wr := ((Below.refl _ w).alloc (Nat.le_refl _) _).trans (hbe.mono (Nat.le_succ _))
      obtain ⟨hn1, hn2⟩ := arg_news (unhide HB) hbw Z (len0 + 4) (unhide Hz2)
      have Hhx := hide hhx
      clear hhx
      go_wp2_with (first | (at_builtin; refine wpList_append_fits_any _ rfl (.tmp 57) (.tmp 58) 22 rfl (w.heap.size + 1) 5 i0 1 Ybaf.underlying22 hi hz1 (w.heap.size + 1) (len0 + 4) (len0 + 4 + len2) _ rfl hrow a2 len2 cap2 (seg Z (len0 + 4) len2) rfl (by rw [seg_length]; omega) hn1 hn2 (seg_one _ _ _) (by omega) ?_; intro w2 hown2 hg2; rw [seg_join] at hown2; have hbe2 := hbe.grown hg2 (by have := hbe.size; simp only [World.size_alloc] at this; exact this) (fun k e => by cases e; exact Nat.le_refl _); have hlt2 := (hown2.lt (w.heap.size + 1) rfl).2; clear hrow hg2 hbe hn1 hn2) | (refine wpList_build_is rfl 29 _ rfl [(0,.slice (some ⟨w.heap.size+1,0,none⟩) (len0+4+len2) (len0+4+len2)), (1,.int .i64 len0)] rfl _ (built29 _ _ _ _) ?_))
      have hZr : ∀ j, j < len0 + 4 + len2 → 0 ≤ Z j ∧ Z j ≤ 255 := by
        intro j hj
        by_cases c0 : j < len0
        · have := (unhide Hz0) j c0
          rw [Nat.zero_add] at this
          rw [this]
          exact (unhide HA).range j c0
        · by_cases c1 : j < len0 + 4
          · have := (unhide Hz1) (j - len0) (by omega)
            rw [show len0 + (j - len0) = j by omega] at this
            rw [this]
            exact tab_range _ (by omega)
          · have := (unhide Hz2) (j - (len0 + 4)) (by omega)
            rw [show len0 + 4 + (j - (len0 + 4)) = j by omega] at this
            rw [this]
            exact (unhide HB).range _ (by omega)
      have hown3 := hown2.alloc (.cells (#[.slice (some ⟨w.heap.size+1,0,none⟩) (len0+4+len2) (len0+4+len2), .int .i64 len0] ++ tl29) 29)
      refine (read_ok w2.heap.size (w.heap.size + 1) 0 (len0+4+len2) (len0+4+len2) len0 tl29 Z _ (by omega) (heap_alloc_new _ _) (by omega) (by omega) ?_ (unhide Hhx)).mono ?_
      · intro j hj
        refine ⟨?_, hZr j hj⟩
        rw [Nat.zero_add, hown3.cellAt j (by omega)]
        simp only [seg, List.getElem?_map, List.getElem?_range hj, Option.map_some, Nat.zero_add]
      rintro e w3 ⟨rfl, hdec⟩
      obtain ⟨-, hd1, -⟩ := hdec.facts
      have hb3 : Below w.heap.size w w3 := (((Below.refl _ w).alloc (Nat.le_refl _) _).trans (hbe2.mono (Nat.le_succ _))).trans (((Below.refl _ w2).alloc (by omega) _).trans (hdec.below (by omega)))
      go_wp2_with fail
      go_ret
      exact ⟨rfl, hb3⟩

set_option maxRecDepth 100000 in
set_option maxHeartbeats 400000 in
theorem digits_long (a0 a2 : Option Addr) (len0 cap0 len2 cap2 : Nat) (x : Value) (w : World) (h : 1024 < len0 ∨ 1024 < len2) :
    Calls Ybaf.prog 4 #[.slice a0 len0 cap0, x, .slice a2 len2 cap2] w fun e w' => e = .returned (.bool true) ∧ Below w.heap.size w w' := by
  go_enter Ybaf.func4, Ybaf.ntmps4
  rcases h with h | h
  all_goals
    go_wp2_with fail
    all_goals first | omega | (go_ret; exact ⟨rfl, (Below.refl _ w).alloc (Nat.le_refl _) _⟩)

end Go.Proofs.YbulkbsmiFmt
