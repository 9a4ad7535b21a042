/-
  Seat b3451a: the walk of LawS3451CUnion (function 4).
-/
import Derived.Test.YbulkbslgSorted
import Derived.SliceStrings
namespace Go.Proofs.Ybulkbslg
open Go.RowKit Go.Maps Go.WideMaps Go.Sort

/-- A slice of strings that came in. -/
def ArgStrs (w : World) (a : Option Addr) (len : Nat) (S : Nat → ByteArray) : Prop :=
  len = 0 ∨ ∃ b off, a = some ⟨b, off, none⟩ ∧ b < w.heap.size ∧ ∀ j, j < len → w.cell? ⟨b, off + j, none⟩ = some (.string (S j)) ∧ (S j).size ≤ maxLen

/-- The first n of T as values. -/
def rowOf (T : Nat → ByteArray) (n : Nat) : List Value := (List.range n).map fun j => .string (T j)
theorem rowOf_succ (T : Nat → ByteArray) (n : Nat) : rowOf T (n + 1) = rowOf T n ++ [.string (T n)] := by simp [rowOf, List.range_succ]

theorem IndexAt.below {w w' : World} {len : Nat} {S : Nat → ByteArray} {m : Option Nat} (h : IndexAt w len S m) (hb : Below w.heap.size w w') : IndexAt w' len S m := by
  rcases h with rfl | ⟨bm, n, D, rfl, ho, hD⟩
  · exact .inl rfl
  · have hlt := ho.lt
    obtain ⟨es, clock, he, F, hs, hd⟩ := ho
    exact .inr ⟨bm, n, D, rfl, ⟨es, clock, (hb.block bm hlt).trans he, F, hs, hd⟩, hD⟩

theorem SetAt.below {w w' : World} {p : Nat} {a : Option Addr} {len cap : Nat} {S : Nat → ByteArray} {m : Option Nat} (h : SetAt w p a len cap S m) (hp : p < w.heap.size) (hb : Below w.heap.size w w') : SetAt w' p a len cap S m :=
  ⟨(hb.cell (p := ⟨p, 0, none⟩) hp).trans h.c0, (hb.cell (p := ⟨p, 2, none⟩) hp).trans h.c2, h.strs.below hb, h.index.below hb⟩

theorem strs_of_row {w : World} {base g n cap : Nat} {T : Nat → ByteArray} (h : w.ownsRow base 9 1 (.slice (some ⟨g, 0, none⟩) n cap) n (rowOf T n)) (hsz : ∀ j, j < n → (T j).size ≤ maxLen) : Strs w (some ⟨g, 0, none⟩) n T := by
  refine .inr ⟨g, 0, rfl, ?_, fun j hj => ⟨?_, hsz j hj⟩⟩
  · rcases h.2 with ⟨e, _⟩ | ⟨g', cap', cur, e, _, hb, _⟩
    · cases e
    · cases e; exact (Array.getElem?_eq_some_iff.1 hb).1
  · rw [Nat.zero_add, h.cellAt j (by omega)]
    simp [rowOf, hj]

/-- What vc holds: b's strings, then a's. -/
def both (len1 : Nat) (S0 S1 : Nat → ByteArray) (j : Nat) : ByteArray := if j < len1 then S1 j else S0 (j - len1)

theorem sub_both (len0 len1 : Nat) (S0 S1 : Nat → ByteArray) : subB (both len1 S0 S1) (len1 + len0) S0 len0 = true := by
  rw [subB_iff]
  intro j hj
  rw [memB_iff]
  exact ⟨len1 + j, by omega, by simp only [both, if_neg (show ¬ len1 + j < len1 by omega), Nat.add_sub_cancel_left]⟩
theorem sub_self (len0 : Nat) (S0 : Nat → ByteArray) : subB S0 len0 S0 len0 = true := by
  rw [subB_iff]
  intro j hj
  rw [memB_iff]
  exact ⟨j, hj, rfl⟩

theorem setAt_new {w w2 : World} {g len cap : Nat} {S : Nat → ByteArray} {m : Option Nat} {dv : Value} (hs : Strs w (some ⟨g, 0, none⟩) len S) (hI : IndexAt w2 len S m) (hb : Below w.heap.size w w2) :
    SetAt (w2.alloc (.cells #[.slice (some ⟨g, 0, none⟩) len cap, dv, .map m] 27)) w2.heap.size (some ⟨g, 0, none⟩) len cap S m := by
  have hbe : Below w2.heap.size w2 (w2.alloc (.cells #[.slice (some ⟨g, 0, none⟩) len cap, dv, .map m] 27)) := (Below.refl _ _).alloc (Nat.le_refl _) _
  exact ⟨by simp, by simp, (hs.below hb).below hbe, hI.below hbe⟩

/-- A row behind the new one-cell block and the append. -/
theorem below_append {w wr w1 : World} {g : Nat} {o : Obj} (h : Below w.heap.size w wr) (hg : (wr.alloc o).grownBy w1 (some g)) (hB : w.heap.size ≤ g) : Below w.heap.size w w1 :=
  (h.alloc h.size o).grown hg (by have := h.size; simp; omega) (fun k e => by cases e; exact hB)

set_option maxRecDepth 100000 in
set_option maxHeartbeats 1000000 in
theorem union_walk (a0 a1 : Option Addr) (len0 len1 cap0 cap1 : Nat) (S0 S1 : Nat → ByteArray) (w : World) (h0 : len0 ≤ 1024) (h1 : len1 ≤ 1024) (hA : ArgStrs w a0 len0 S0) (hB : ArgStrs w a1 len1 S1) :
    Calls Yba.prog 4 #[.slice a0 len0 cap0, .slice a1 len1 cap1] w fun e w' => e = .returned (.bool true) ∧ Below w.heap.size w w' := by
  obtain ⟨i0, hi, hz0, hz1, hz2⟩ := info_parts info9
  have HA := hide hA
  have HB := hide hB
  clear hA hB
  have d0 : decide ((1024 : Int) < (len0 : Int)) = false := by simp; omega
  have d1 : decide ((1024 : Int) < (len1 : Int)) = false := by simp; omega
  go_enter Yba.func4, Yba.ntmps4
  go_wp2_with (at_make; refine wpList_make_own _ rfl _ _ 23 rfl w.heap.size 9 i0 _ 1 Yba.underlying23 hi hz0 hz1 _ _ _ len0 rfl rfl (by omega) (by rw [hz2]; omega) (by unfold maxLen; omega) (Nat.le_refl _) ?_; intro wm hown hgm)
  have hBm : Below w.heap.size w wm := (Below.refl _ w).grown hgm (Nat.le_refl _) (by simp)
  go_loopw [5, 28] (fun v i wr => ∃ k : Nat, k ≤ len0 ∧ i = .int .i64 k ∧ v = .slice (some ⟨w.heap.size, 0, none⟩) k len0 ∧ wr.ownsRow w.heap.size 9 1 (.slice (some ⟨w.heap.size, 0, none⟩) k len0) k (rowOf S0 k) ∧ Below w.heap.size w wr) (fun _ i _ => len0 - (intOf i).toNat)
  case atStart => exact ⟨0, Nat.zero_le _, rfl, rfl, hown, hBm⟩
  case round =>
    clear hown hgm hBm
    obtain ⟨k, hk, rfl, rfl, hrow, hbe⟩ := hrel
    by_cases hlt : k < len0
    · rcases (unhide HA) with e | ⟨b, off, rfl, hb, hc⟩
      · omega
      · have hcx := (hbe.cell (p := ⟨b, off + k, none⟩) hb).trans (hc k hlt).1
        clear hc
        go_wp2_with (at_builtin; refine wpList_append_fits _ rfl _ _ 23 rfl w.heap.size 9 i0 1 Yba.underlying23 hi hz1 w.heap.size k len0 _ rfl (hrow.alloc _) ⟨wr.heap.size, 0, none⟩ 1 1 [.string (S0 k)] rfl rfl (cell_one_new _ _ _) (by simp [Value.oneCell']) (by omega) ?_; intro w1 hown1 hg1)
        have hb1 := below_append hbe hg1 (Nat.le_refl _)
        rw [← rowOf_succ] at hown1
        clear hg1 hrow hbe hcx
        go_roundw
        case rel => exact ⟨k + 1, by omega, by go_num, rfl, hown1, hb1⟩
        case measure => simp [intOf]; omega
    · obtain rfl : k = len0 := by omega
      go_wp2_with (at_make; refine wpList_make_own _ rfl _ _ 23 rfl wr.heap.size 9 i0 _ 1 Yba.underlying23 hi hz0 hz1 _ _ _ (k + len1) rfl rfl (by omega) (by rw [hz2]; omega) (by unfold maxLen; omega) (Nat.le_refl _) ?_; intro wm hown hgm)
      have hBm : Below wr.heap.size wr wm := (Below.refl _ wr).grown hgm (Nat.le_refl _) (by simp)
      have hsa : Strs wr (some ⟨w.heap.size, 0, none⟩) k S0 := strs_of_row hrow (fun j hj => by
        rcases (unhide HA) with e | ⟨b, off, _, _, hc⟩
        · omega
        · exact (hc j hj).2)
      obtain ⟨W1, hW1⟩ : ∃ W1, W1 = wr := ⟨_, rfl⟩
      subst hW1
      clear hrow hgm
      go_loopw [8, 45] (fun v i wr => ∃ n : Nat, n ≤ len1 ∧ i = .int .i64 n ∧ v = .slice (some ⟨W1.heap.size, 0, none⟩) n (k + len1) ∧ wr.ownsRow W1.heap.size 9 1 (.slice (some ⟨W1.heap.size, 0, none⟩) n (k + len1)) n (rowOf (both len1 S0 S1) n) ∧ Below W1.heap.size W1 wr) (fun _ i _ => len1 - (intOf i).toNat)
      case atStart => exact ⟨0, Nat.zero_le _, rfl, rfl, hown, hBm⟩
      case round =>
        clear hown hBm
        obtain ⟨n, hn, rfl, rfl, hrow, hbe1⟩ := hrel
        by_cases hltn : n < len1
        · rcases (unhide HB) with e | ⟨b, off, rfl, hb, hc⟩
          · omega
          · have hcx : wr.cell? ⟨b, off + n, none⟩ = some (.string (both len1 S0 S1 n)) := by
              rw [show both len1 S0 S1 n = S1 n from by simp [both, hltn]]
              exact (hbe1.cell (p := ⟨b, off + n, none⟩) (Nat.lt_of_lt_of_le hb hbe.size)).trans ((hbe.cell (p := ⟨b, off + n, none⟩) hb).trans (hc n hltn).1)
            clear hc
            go_wp2_with (at_builtin; refine wpList_append_fits _ rfl _ _ 23 rfl W1.heap.size 9 i0 1 Yba.underlying23 hi hz1 W1.heap.size n (k + len1) _ rfl (hrow.alloc _) ⟨wr.heap.size, 0, none⟩ 1 1 [.string (both len1 S0 S1 n)] rfl rfl (cell_one_new _ _ _) (by simp [Value.oneCell']) (by omega) ?_; intro w1 hown1 hg1)
            have hb1 := below_append hbe1 hg1 (Nat.le_refl _)
            rw [← rowOf_succ] at hown1
            clear hg1 hrow hbe1 hcx
            go_roundw
            case rel => exact ⟨n + 1, by omega, by go_num, rfl, hown1, hb1⟩
            case measure => simp [intOf]; omega
        · obtain rfl : n = len1 := by omega
          go_wp2_with fail
          go_loopw [8, 56] (fun v i wr => ∃ q : Nat, q ≤ k ∧ i = .int .i64 q ∧ v = .slice (some ⟨W1.heap.size, 0, none⟩) (n + q) (k + n) ∧ wr.ownsRow W1.heap.size 9 1 (.slice (some ⟨W1.heap.size, 0, none⟩) (n + q) (k + n)) (n + q) (rowOf (both n S0 S1) (n + q)) ∧ Below W1.heap.size W1 wr) (fun _ i _ => k - (intOf i).toNat)
          case atStart => exact ⟨0, Nat.zero_le _, rfl, rfl, hrow, hbe1⟩
          case round =>
            clear hrow hbe1
            obtain ⟨q, hq, rfl, rfl, hrow, hbe1⟩ := hrel
            by_cases hltq : q < k
            · rcases (unhide HA) with e | ⟨b, off, rfl, hb, hc⟩
              · omega
              · have hcx : wr.cell? ⟨b, off + q, none⟩ = some (.string (both n S0 S1 (n + q))) := by
                  rw [show both n S0 S1 (n + q) = S0 q from by simp only [both, if_neg (show ¬ n + q < n by omega), Nat.add_sub_cancel_left]]
                  exact (hbe1.cell (p := ⟨b, off + q, none⟩) (Nat.lt_of_lt_of_le hb hbe.size)).trans ((hbe.cell (p := ⟨b, off + q, none⟩) hb).trans (hc q hltq).1)
                clear hc
                go_wp2_with (at_builtin; refine wpList_append_fits _ rfl _ _ 23 rfl W1.heap.size 9 i0 1 Yba.underlying23 hi hz1 W1.heap.size (n + q) (k + n) _ rfl (hrow.alloc _) ⟨wr.heap.size, 0, none⟩ 1 1 [.string (both n S0 S1 (n + q))] rfl rfl (cell_one_new _ _ _) (by simp [Value.oneCell']) (by omega) ?_; intro w1 hown1 hg1)
                have hb1 := below_append hbe1 hg1 (Nat.le_refl _)
                rw [← rowOf_succ] at hown1
                clear hg1 hrow hbe1 hcx
                go_roundw
                case rel => exact ⟨q + 1, by omega, by go_num, rfl, hown1, hb1⟩
                case measure => simp [intOf]; omega
            · obtain rfl : q = k := by omega
              have hsc : Strs wr (some ⟨W1.heap.size, 0, none⟩) (n + q) (both n S0 S1) := strs_of_row hrow (fun j hj => by
                by_cases hjn : j < n
                · rcases (unhide HB) with e | ⟨b, off, _, _, hc⟩
                  · omega
                  · rw [show both n S0 S1 j = S1 j from by simp [both, hjn]]; exact (hc j hjn).2
                · rcases (unhide HA) with e | ⟨b, off, _, _, hc⟩
                  · omega
                  · rw [show both n S0 S1 j = S0 (j - n) from by simp [both, hjn]]; exact (hc (j - n) (by omega)).2)
              have hsa2 := hsa.below hbe1
              have hbe2 := hbe.trans (hbe1.mono hbe.size)
              clear hrow hsa hbe hbe1 HA HB
              go_wp2_with fail
              refine (newSet_any sorted_said compact_said _ q q S0 _ (by omega) hsa2).mono ?_
              rintro e w2 ⟨da, dl, dc, m, rfl, hI, _, hb2⟩
              have hset : SetAt (w2.alloc (.cells #[.slice (some ⟨w.heap.size, 0, none⟩) q q, .slice da dl dc, .map m] 27)) w2.heap.size (some ⟨w.heap.size, 0, none⟩) q q S0 m := setAt_new hsa2 hI hb2
              have hbn : Below wr.heap.size wr (w2.alloc (.cells #[.slice (some ⟨w.heap.size, 0, none⟩) q q, .slice da dl dc, .map m] 27)) := hb2.alloc hb2.size _
              have hsc2 := hsc.below hbn
              have hbe3 := hbe2.trans (hbn.mono hbe2.size)
              clear hb2 hI hsa2 hsc hbe2 hbn
              go_wp2_with fail
              obtain ⟨W3, hW3⟩ : ∃ W3, W3 = w2.alloc (.cells #[.slice (some ⟨w.heap.size, 0, none⟩) q q, .slice da dl dc, .map m] 27) := ⟨_, rfl⟩
              have hz3 : W3.heap.size = w2.heap.size + 1 := by rw [hW3]; simp
              rw [← hW3] at hset hsc2 hbe3 ⊢
              have Hz3 := hide hz3
              clear hW3 hz3
              refine (newSet_any sorted_said compact_said _ (n + q) (q + n) (both n S0 S1) _ (by omega) hsc2).mono ?_
              rintro e w4 ⟨da', dl', dc', m', rfl, hI', _, hb4⟩
              have hset' : SetAt (w4.alloc (.cells #[.slice (some ⟨W1.heap.size, 0, none⟩) (n + q) (q + n), .slice da' dl' dc', .map m'] 27)) w4.heap.size (some ⟨W1.heap.size, 0, none⟩) (n + q) (q + n) (both n S0 S1) m' := setAt_new hsc2 hI' hb4
              have hbn : Below W3.heap.size W3 (w4.alloc (.cells #[.slice (some ⟨W1.heap.size, 0, none⟩) (n + q) (q + n), .slice da' dl' dc', .map m'] 27)) := hb4.alloc hb4.size _
              have hset2 := hset.below (by have := unhide Hz3; omega) hbn
              have hbe4 := hbe3.trans (hbn.mono hbe3.size)
              clear hb4 hI' hsc2 hbe3 hbn hset
              go_wp2_with fail
              have hc1 := subset_any w2.heap.size w4.heap.size _ q q S0 (both n S0 S1) _ (n + q) (q + n) _ _ (by omega) (by omega) hset2.c0 hset2.strs hset'
              have hc2 := subset_any w2.heap.size w2.heap.size _ q q S0 S0 _ q q _ _ (by omega) (by omega) hset2.c0 hset2.strs hset2
              rw [sub_both] at hc1
              rw [sub_self] at hc2
              have Hc1 := hide hc1
              have Hc2 := hide hc2
              clear hc1 hc2 hset2 hset'
              refine (unhide Hc1).mono ?_
              rintro e w5 ⟨rfl, rfl⟩
              go_wp2_with fail
              refine (unhide Hc2).mono ?_
              rintro e w5 ⟨rfl, rfl⟩
              go_wp2_with fail
              go_ret
              exact ⟨rfl, hbe4⟩

set_option maxRecDepth 100000 in
set_option maxHeartbeats 400000 in
/-- Too long: 'return true' at once. -/
theorem union_long (a0 a1 : Option Addr) (len0 len1 cap0 cap1 : Nat) (w : World) (h : 1024 < len0 ∨ 1024 < len1) (h0 : len0 ≤ 9223372036854775807) (h1 : len1 ≤ 9223372036854775807) :
    Calls Yba.prog 4 #[.slice a0 len0 cap0, .slice a1 len1 cap1] w fun e w' => e = .returned (.bool true) ∧ Below w.heap.size w w' := by
  by_cases c0 : 1024 < len0
  · have d0 : decide ((1024 : Int) < (len0 : Int)) = true := by simp; omega
    go_enter Yba.func4, Yba.ntmps4
    go_wp2_with fail
    go_ret
    exact ⟨rfl, Below.refl _ _⟩
  · have d0 : decide ((1024 : Int) < (len0 : Int)) = false := by simp; omega
    have d1 : decide ((1024 : Int) < (len1 : Int)) = true := by simp; omega
    clear h c0
    go_enter Yba.func4, Yba.ntmps4
    go_wp2_with fail
    go_ret
    exact ⟨rfl, Below.refl _ _⟩

theorem union_any (a0 a1 : Option Addr) (len0 len1 cap0 cap1 : Nat) (S0 S1 : Nat → ByteArray) (w : World) (h0 : len0 ≤ 9223372036854775807) (h1 : len1 ≤ 9223372036854775807) (hA : ArgStrs w a0 len0 S0) (hB : ArgStrs w a1 len1 S1) :
    Calls Yba.prog 4 #[.slice a0 len0 cap0, .slice a1 len1 cap1] w fun e w' => e = .returned (.bool true) ∧ Below w.heap.size w w' := by
  by_cases h : 1024 < len0 ∨ 1024 < len1
  · exact union_long a0 a1 len0 len1 cap0 cap1 w h h0 h1
  · exact union_walk a0 a1 len0 len1 cap0 cap1 S0 S1 w (by omega) (by omega) hA hB

end Go.Proofs.Ybulkbslg
