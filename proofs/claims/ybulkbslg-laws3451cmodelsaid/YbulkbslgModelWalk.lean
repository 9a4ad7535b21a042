/-
  Seat b3451a: the walk of LawS3451CModel (function 3).
-/
import Derived.Test.YbulkbslgModel
import Derived.Deep.CutBlock
import Derived.Deep.DeepCutAuto
import Derived.Deep.QuietTactic
import Derived.BigQuiet
namespace Go.Proofs.Ybulkbslg
open Go.RowKit Go.Maps Go.WideMaps Go.Sort

theorem setAt_made {w w2 : World} {a : Option Addr} {len cap : Nat} {S : Nat → ByteArray} {m : Option Nat} {dv : Value} (hs : Strs w a len S) (hI : IndexAt w2 len S m) (hb : Below w.heap.size w w2) :
    SetAt (w2.alloc (.cells #[.slice a len cap, dv, .map m] 27)) w2.heap.size a len cap S m := by
  have hbe : Below w2.heap.size w2 (w2.alloc (.cells #[.slice a len cap, dv, .map m] 27)) := (Below.refl _ _).alloc (Nat.le_refl _) _
  exact ⟨by simp, by simp, (hs.below hb).below hbe, hI.below hbe⟩

set_option maxRecDepth 100000 in
set_option maxHeartbeats 1000000 in
theorem model_walk (a0 a1 : Option Addr) (len0 len1 cap0 cap1 : Nat) (z0 z1 : Nat → Int) (w : World) (h0 : len0 ≤ 1024) (h1 : len1 ≤ 1024) (hA : ArgBytes w a0 len0 cap0 z0) (hB : ArgBytes w a1 len1 cap1 z1) :
    Calls Yba.prog 3 #[.slice a0 len0 cap0, .slice a1 len1 cap1] w fun e w' => e = .returned (.bool true) ∧ Below w.heap.size w w' := by
  have HA := hide hA
  have HB := hide hB
  clear hA hB
  have d0 : decide ((1024 : Int) < (len0 : Int)) = false := by simp; omega
  have d1 : decide ((1024 : Int) < (len1 : Int)) = false := by simp; omega
  go_enter Yba.func3, Yba.ntmps3
  go_wp2_with fail
  refine (build_any a0 len0 cap0 z0 _ h0 (unhide HA)).mono ?_
  rintro e w1 ⟨S0, b0, c0, rfl, hs0, hb1⟩
  have HB1 := hide ((unhide HB).below hb1)
  clear HA HB
  go_wp2_with fail
  refine (build_any a1 len1 cap1 z1 _ h1 (unhide HB1)).mono ?_
  rintro e w2 ⟨S1, b1, c1, rfl, hs1, hb2⟩
  have hs0' := hs0.below hb2
  have hbw2 := hb1.trans (hb2.mono hb1.size)
  clear HB1 hs0 hb1 hb2
  go_wp2_with fail
  refine (newSet_any sorted_said compact_said _ len0 c0 S0 _ (by omega) hs0').mono ?_
  rintro e w3 ⟨da, dl, dc, m, rfl, hI, _, hb3⟩
  have hset : SetAt (w3.alloc (.cells #[.slice b0 len0 c0, .slice da dl dc, .map m] 27)) w3.heap.size b0 len0 c0 S0 m := setAt_made hs0' hI hb3
  have hbn : Below w2.heap.size w2 (w3.alloc (.cells #[.slice b0 len0 c0, .slice da dl dc, .map m] 27)) := hb3.alloc hb3.size _
  have hs1' := hs1.below hbn
  have hbw3 := hbw2.trans (hbn.mono hbw2.size)
  clear hb3 hI hs0' hs1 hbw2 hbn
  go_wp2_with fail
  obtain ⟨W3, hW3⟩ : ∃ W3, W3 = w3.alloc (.cells #[.slice b0 len0 c0, .slice da dl dc, .map m] 27) := ⟨_, rfl⟩
  have hz3 : W3.heap.size = w3.heap.size + 1 := by rw [hW3]; simp
  rw [← hW3] at hset hs1' hbw3 ⊢
  have Hz3 := hide hz3
  clear hW3 hz3
  refine (newSet_any sorted_said compact_said _ len1 c1 S1 _ (by omega) hs1').mono ?_
  rintro e w4 ⟨da', dl', dc', m', rfl, hI', _, hb4⟩
  have hset' : SetAt (w4.alloc (.cells #[.slice b1 len1 c1, .slice da' dl' dc', .map m'] 27)) w4.heap.size b1 len1 c1 S1 m' := setAt_made hs1' hI' hb4
  have hbn : Below W3.heap.size W3 (w4.alloc (.cells #[.slice b1 len1 c1, .slice da' dl' dc', .map m'] 27)) := hb4.alloc hb4.size _
  have hset2 := hset.below (by have := unhide Hz3; omega) hbn
  have hbw4 := hbw3.trans (hbn.mono hbw3.size)
  clear hb4 hI' hs1' hbw3 hbn hset
  go_wp2_with fail
  obtain ⟨W5, hW5⟩ : ∃ W5, W5 = w4.alloc (.cells #[.slice b1 len1 c1, .slice da' dl' dc', .map m'] 27) := ⟨_, rfl⟩
  rw [← hW5] at hset2 hset' hbw4 ⊢
  clear hW5
  refine (subset_any w3.heap.size w4.heap.size _ len0 c0 S0 S1 _ len1 c1 _ _ (by omega) (by omega) hset2.c0 hset2.strs hset').mono ?_
  rintro e w5 ⟨rfl, rfl⟩
  have hcA := hset2.strs
  have hcB := hset'.strs
  have hf0 := hset2.c0
  have hf1 := hset'.c0
  have HcA := hide hcA
  have HcB := hide hcB
  clear hset2 hset' hcA hcB
  obtain ⟨got, hgot⟩ : ∃ got, got = subB S1 len1 S0 len0 := ⟨_, rfl⟩
  rw [← hgot]
  have Hgot := hide hgot
  clear hgot
  go_upto_block 0 with fail
  go_cut [10] (fun v wx => v = .bool got ∧ ∃ n, wx = w5.drewN n)
  case first =>
    clear hf0 hf1
    go_wp2_with fail
    go_loopw [10, 11] (fun v i wr => ∃ k n : Nat, k ≤ len0 ∧ i = .int .i64 k ∧ v = .bool true ∧ subB S1 len1 S0 k = true ∧ wr = w5.drewN n) (fun _ i _ => len0 - (intOf i).toNat)
    case atStart => exact ⟨0, 0, Nat.zero_le _, rfl, rfl, rfl, rfl⟩
    case round =>
      obtain ⟨k, n, hk, rfl, rfl, hm, rfl⟩ := hrel
      have Hm := hide hm
      clear hm
      by_cases hlt : k < len0
      · go_upto_block 2 with fail
        go_cut [12] (fun v wx => v = .bool (memB S1 len1 (S0 k)) ∧ ∃ n, wx = w5.drewN n)
        case first =>
          go_wp2_with fail
          go_loopw [12, 13] (fun v j wr => ∃ q n : Nat, q ≤ len1 ∧ j = .int .i64 q ∧ v = .bool false ∧ memB S1 q (S0 k) = false ∧ wr = w5.drewN n) (fun _ j _ => len1 - (intOf j).toNat)
          case atStart => exact ⟨0, n, Nat.zero_le _, rfl, rfl, rfl, rfl⟩
          case round =>
            obtain ⟨q, n', hq, rfl, rfl, hm, rfl⟩ := hrel
            have Hq := hide hm
            clear hm
            by_cases hltq : q < len1
            · rcases (unhide HcA) with ⟨_, e⟩ | ⟨bb0, off0, rfl, hbb0, hcc0⟩
              · omega
              · rcases (unhide HcB) with ⟨_, e⟩ | ⟨bb1, off1, rfl, hbb1, hcc1⟩
                · omega
                · have hx0 := (hcc0 k hlt).1
                  have hx1 := (hcc1 q hltq).1
                  clear hcc0 hcc1
                  go_wp2_with fail
                  go_quiet (fail)
                  go_wp2_with fail
                  · have he : ((S0 k).toList == (S1 q).toList) = true := by assumption
                    have hx : memB S1 len1 (S0 k) = true := (memB_iff _ _ _).2 ⟨q, hltq, bytes_ext (by rw [beq_iff_eq, ByteArray.toList_eq, ByteArray.toList_eq] at he; exact he.symm)⟩
                    go_meet
                    case rel => exact ⟨by rw [hx], n' + nq, World.drewN_drewN _ _ _⟩
                  · have he : ((S0 k).toList == (S1 q).toList) = false := by assumption
                    go_roundw
                    case rel => exact ⟨q + 1, n' + nq, by omega, by go_num, rfl, by rw [memB, unhide Hq, Bool.false_or, Bool.beq_comm]; exact he, rfl⟩
                    case measure => simp [intOf]; omega
            · obtain rfl : q = len1 := by omega
              go_wp2_with fail
              go_meet
              case rel => exact ⟨by rw [unhide Hq], n', rfl⟩
        case rest =>
          obtain ⟨rfl, n', rfl⟩ := hcut
          cases hb : memB S1 len1 (S0 k)
          · have hx : got = false := by
              rw [unhide Hgot, ← Bool.not_eq_true, subB_iff]
              intro hall
              rw [hall k hlt] at hb
              exact Bool.noConfusion hb
            subst hx
            have Hb := hide hb
            clear hb
            go_wp2_with fail
            go_meet
            case rel => exact ⟨rfl, n', rfl⟩
          · have Hb := hide hb
            clear hb
            go_wp2_with fail
            go_roundw
            case rel => exact ⟨k + 1, n', by omega, by go_num, rfl, by rw [subB, unhide Hm, unhide Hb]; rfl, rfl⟩
            case measure => simp [intOf]; omega
      · obtain rfl : k = len0 := by omega
        go_wp2_with fail
        go_meet
        case rel => exact ⟨by rw [unhide Hgot, unhide Hm], n, rfl⟩
  case rest =>
    obtain ⟨rfl, n, rfl⟩ := hcut
    clear HcA HcB
    go_wp2_with fail
    go_ret
    exact ⟨by simp, ⟨hbw4.os, hbw4.tape, hbw4.output, hbw4.size, hbw4.block⟩⟩

set_option maxRecDepth 100000 in
set_option maxHeartbeats 400000 in
/-- Too long: 'return true' at once. -/
theorem model_long (a0 a1 : Option Addr) (len0 len1 cap0 cap1 : Nat) (w : World) (h : 1024 < len0 ∨ 1024 < len1) (h0 : len0 ≤ 9223372036854775807) (h1 : len1 ≤ 9223372036854775807) :
    Calls Yba.prog 3 #[.slice a0 len0 cap0, .slice a1 len1 cap1] w fun e w' => e = .returned (.bool true) ∧ Below w.heap.size w w' := by
  by_cases c0 : 1024 < len0
  · have d0 : decide ((1024 : Int) < (len0 : Int)) = true := by simp; omega
    go_enter Yba.func3, Yba.ntmps3
    go_wp2_with fail
    go_ret
    exact ⟨rfl, Below.refl _ _⟩
  · have d0 : decide ((1024 : Int) < (len0 : Int)) = false := by simp; omega
    have d1 : decide ((1024 : Int) < (len1 : Int)) = true := by simp; omega
    clear h c0
    go_enter Yba.func3, Yba.ntmps3
    go_wp2_with fail
    go_ret
    exact ⟨rfl, Below.refl _ _⟩

theorem model_any (a0 a1 : Option Addr) (len0 len1 cap0 cap1 : Nat) (z0 z1 : Nat → Int) (w : World) (h0 : len0 ≤ 9223372036854775807) (h1 : len1 ≤ 9223372036854775807) (hA : ArgBytes w a0 len0 cap0 z0) (hB : ArgBytes w a1 len1 cap1 z1) :
    Calls Yba.prog 3 #[.slice a0 len0 cap0, .slice a1 len1 cap1] w fun e w' => e = .returned (.bool true) ∧ Below w.heap.size w w' := by
  by_cases h : 1024 < len0 ∨ 1024 < len1
  · exact model_long a0 a1 len0 len1 cap0 cap1 w h h0 h1
  · exact model_walk a0 a1 len0 len1 cap0 cap1 z0 z1 w (by omega) (by omega) hA hB

end Go.Proofs.Ybulkbslg
