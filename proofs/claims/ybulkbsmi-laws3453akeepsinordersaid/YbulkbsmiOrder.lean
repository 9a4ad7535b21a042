/-
  Seat b3453a: the walk of LawS3453AKeepsInOrder (function 3).
-/
import Derived.Test.YbulkbsmiPlain
namespace Go.Proofs.Ybulkbsmi
open Go.RowKit
set_option linter.unusedVariables false

/-- A slice of strings that came in. -/
def ArgStrs (w : World) (a : Option Addr) (len : Nat) (S : Nat → ByteArray) : Prop :=
  len = 0 ∨ ∃ b off, a = some ⟨b, off, none⟩ ∧ b < w.heap.size ∧ ∀ j, j < len → w.cell? ⟨b, off + j, none⟩ = some (.string (S j))

/-- The k-th name kept. -/
def nameAt (len : Nat) (S : Nat → ByteArray) (k : Nat) : ByteArray := if k < len then S k else ⟨#[]⟩

theorem lr_new (w : World) : LR w.heap.size (w.alloc (.cells (lrCells (.slice none 0 0) 0) 32)) w.heap.size (.slice none 0 0) [] 0 :=
  ⟨heap_alloc_new w _, Nat.le_refl _, ⟨rfl, .inl ⟨rfl, rfl⟩⟩, by simp, by simp⟩

theorem flatRow_get (nm : Nat → ByteArray) : ∀ n j, j < n → (flatRow nm n)[j * 7]? = some (.string (nm j)) ∧ (flatRow nm n).length = n * 7
  | 0, j, h => by omega
  | n + 1, j, h => by
    have hlen : ∀ m, (flatRow nm m).length = m * 7 := by
      intro m
      induction m with
      | zero => rfl
      | succ m ih => rw [flatRow_succ, List.length_append, ih]; simp [tk]; omega
    refine ⟨?_, hlen _⟩
    rw [flatRow_succ]
    by_cases e : j < n
    · rw [List.getElem?_append_left (by rw [hlen]; omega)]
      exact (flatRow_get nm n j e).1
    · have : j = n := by omega
      subst this
      rw [List.getElem?_append_right (by rw [hlen]; omega), hlen]
      simp [tk]

/-- The name of a chunk's j-th taker. -/
theorem name_cell {w : World} {base : Nat} {ch : Ch} (h : w.ownsRow base 35 7 (.slice (some ⟨ch.g, 0, none⟩) ch.len ch.cap) ch.len ch.row) (j : Nat) (hj : j < ch.len) : w.cell? ⟨ch.g, j * 7, none⟩ = some (.string (ch.nm j)) := by
  rw [h.cellAt (j * 7) (by omega)]
  exact (flatRow_get ch.nm ch.len j hj).1

set_option maxRecDepth 100000 in
set_option maxHeartbeats 1600000 in
theorem order_walk (a0 : Option Addr) (len0 cap0 : Nat) (S : Nat → ByteArray) (x : Int) (w : World) (h0 : len0 ≤ 1024) (hx0 : 0 ≤ x) (hx1 : x ≤ 65535) (hA : ArgStrs w a0 len0 S) :
    Calls Yba.prog 3 #[.slice a0 len0 cap0, .int .u16 x] w fun e w' => e = .returned (.bool true) ∧ Below w.heap.size w w' := by
  have HA := hide hA
  clear hA
  have d0 : decide ((1024 : Int) < (len0 : Int)) = false := by simp; omega
  obtain ⟨r, hr⟩ : ∃ r : Nat, x % 1024 = (r : Int) := ⟨(x % 1024).toNat, by omega⟩
  have hr1 : r < 1024 := by omega
  go_enter Yba.func3, Yba.ntmps3
  go_wp2_with fail
  clear hr
  go_loopw [7] (fun i wr => ∃ (k : Nat) (tv : Value) (chs : List Ch), k ≤ len0 + r ∧ i = .int .i64 k ∧ LR w.heap.size wr w.heap.size tv chs k ∧ Inv (nameAt len0 S) k chs ∧ Below w.heap.size w wr) (fun i _ => len0 + r - (intOf i).toNat)
  case atStart => exact ⟨0, _, [], Nat.zero_le _, rfl, lr_new w, inv_start _, (Below.refl _ _).alloc (Nat.le_refl _) _⟩
  case round =>
    obtain ⟨k, tv, chs, hk, rfl, hLR, hInv, hbe⟩ := hrel
    by_cases hlt : k < len0 + r
    · have hkeep := fun nm w' h => keep_any w.heap.size w.heap.size nm tv chs k w' h (by omega) (by have := inv_len hInv; omega) (inv_cap hInv)
      have HK := hide (hkeep (nameAt len0 S k) wr hLR)
      clear hkeep
      by_cases hkl : k < len0
      · rcases (unhide HA) with e | ⟨b, off, rfl, hb, hc⟩
        · omega
        · have hcx := (hbe.cell (p := ⟨b, off + k, none⟩) hb).trans (hc k hkl)
          rw [show S k = nameAt len0 S k from by simp [nameAt, hkl]] at hcx
          clear hc
          go_wp2_with (go_at_call 5; refine (unhide HK).mono ?_; rintro e w1 ⟨rfl, tv', chs', hLR1, hNx, hb1⟩)
          have hI1 := inv_next hInv hNx
          go_roundw
          case rel => exact ⟨k + 1, tv', chs', by omega, by go_num, hLR1, hI1, hbe.trans hb1⟩
          case measure => simp [intOf]; omega
      · have hnm : nameAt len0 S k = ⟨#[]⟩ := by simp [nameAt, hkl]
        rw [hnm] at HK
        go_wp2_with (go_at_call 5; refine (unhide HK).mono ?_; rintro e w1 ⟨rfl, tv', chs', hLR1, hNx, hb1⟩)
        rw [← hnm] at hNx
        have hI1 := inv_next hInv hNx
        go_roundw
        case rel => exact ⟨k + 1, tv', chs', by omega, by go_num, hLR1, hI1, hbe.trans hb1⟩
        case measure => simp [intOf]; omega
    · have hkm : k = len0 + r := by omega
      obtain ⟨⟨hc9, hc10⟩, _, hLs⟩ := lr_facts hLR.lr
      obtain ⟨ao, ocap, rfl⟩ : ∃ ao ocap, tv = .slice ao chs.length ocap := by
        rcases hLR.outer.2 with ⟨e, h0⟩ | ⟨g, cap, cur, e, _⟩
        · exact ⟨none, 0, by rw [e, h0]⟩
        · exact ⟨_, cap, e⟩
      have hle := inv_len hInv
      have hk1 : (len0 : Int) + (r : Int) ≤ (k : Int) := by omega
      have hk2 : (k : Int) ≤ (len0 : Int) + (r : Int) := by omega
      have hk3 : k ≤ 2047 := by omega
      clear hkm hk hlt
      go_wp2_with fail
      go_loop [9, 10, 56] (fun b y i => ∃ q y' : Nat, q ≤ chs.length ∧ i = .int .i64 q ∧ b = .int .i64 (bef q : Nat) ∧ y = .int .i64 y' ∧ (q < chs.length → y' = bef q) ∧ (q = chs.length → y' = k)) (fun _ _ i => chs.length - (intOf i).toNat)
      case atStart => exact ⟨0, 0, Nat.zero_le _, rfl, rfl, rfl, fun _ => rfl, fun e => by have := hInv.2; rw [← e] at this; have : k ≤ 0 := this; omega⟩
      case round =>
        obtain ⟨q, y', hq, rfl, rfl, rfl, hy1, hy2⟩ := hrel
        by_cases hlt : q < chs.length
        · obtain ⟨ch, hch⟩ : ∃ ch, chs[q]? = some ch := ⟨_, List.getElem?_eq_getElem hlt⟩
          obtain ⟨g1, g2, g3, g4⟩ := hInv.1 q ch hch
          have hy := hy1 hlt
          subst hy
          have hend1 : q + 1 < chs.length → bef (q + 1) < k := fun h => (hInv.1 (q + 1) _ (List.getElem?_eq_getElem h)).2.2.1
          have hend2 : q + 1 = chs.length → k ≤ bef (q + 1) := fun h => by rw [h]; exact hInv.2
          have hbs : bef (q + 1) = bef q + newCap (bef q) := rfl
          have Hend1 := hide hend1
          have Hend2 := hide hend2
          have Hbs := hide hbs
          clear hend1 hend2 hbs hy1 hy2
          obtain ⟨ob, rfl⟩ : ∃ ob, ao = some ⟨ob, 0, none⟩ := by
            rcases hLR.outer.2 with ⟨e, h0⟩ | ⟨g, cap, cur, e, _⟩
            · omega
            · exact ⟨g, by injection e⟩
          have hrow : wr.ownsRow w.heap.size 35 7 (.slice (some ⟨ch.g, 0, none⟩) ch.len ch.cap) ch.len ch.row := hLR.rows ch (List.mem_of_getElem? hch)
          have hcell : wr.cell? ⟨ob, q, none⟩ = some (.slice (some ⟨ch.g, 0, none⟩) ch.len ch.cap) := by
            rw [hLR.outer.cellAt q (by omega), List.getElem?_map, hch]; rfl
          have Hrow := hide hrow
          have Hg4 := hide g4
          have HInv := hide hInv
          have HLR := hide hLR
          clear hrow g4 hch hInv hLR
          have hc8 : (8 < bef q ∧ ch.cap ≤ bef q ∧ bef q ≤ ch.cap) ∨ (bef q ≤ 8 ∧ ch.cap ≤ 8 ∧ 8 ≤ ch.cap) := by rw [g1]; unfold newCap; omega
          have hcl : (k < bef q + ch.cap ∧ bef q + ch.len ≤ k ∧ k ≤ bef q + ch.len) ∨ (bef q + ch.cap ≤ k ∧ ch.len ≤ ch.cap ∧ ch.cap ≤ ch.len) := by rw [g1]; omega
          have Hg1 := hide g1
          clear g1 g2
          obtain ⟨cap, hcap⟩ : ∃ cap, cap = ch.cap := ⟨_, rfl⟩
          obtain ⟨ln, hln⟩ : ∃ ln, ln = ch.len := ⟨_, rfl⟩
          obtain ⟨B, hB⟩ : ∃ B, B = bef q := ⟨_, rfl⟩
          rw [← hcap, ← hln] at hcell
          rw [← hB, ← hcap] at hc8
          rw [← hB, ← hcap, ← hln] at hcl
          rw [← hB] at g3 ⊢
          have HB := hide hB
          have Hcap := hide hcap
          have Hln := hide hln
          clear hB hcap hln
          rcases hc8 with ⟨h8, hce, hce'⟩ | ⟨h8, hce, hce'⟩ <;> rcases hcl with ⟨hl1, hl2, hl3⟩ | ⟨hl1, hl2, hl3⟩
          all_goals
            have hce1 : cap ≤ 2047 := by omega
            go_wp2_with fail
            go_loop [10, 81] (fun y jj => ∃ j : Nat, j ≤ ln ∧ jj = .int .i64 j ∧ y = .int .i64 (B + j : Nat)) (fun _ jj => ln - (intOf jj).toNat)
            case atStart => exact ⟨0, Nat.zero_le _, rfl, rfl⟩
            case round =>
              obtain ⟨j, hj, rfl, rfl⟩ := hrel
              by_cases hltj : j < ln
              · have hnm : wr.cell? ⟨ch.g, j * 7, none⟩ = some (.string (nameAt len0 S (B + j))) := by
                  rw [unhide HB, ← (unhide Hg4) j (by rw [← unhide Hln]; exact hltj)]
                  exact name_cell (unhide Hrow) j (by rw [← unhide Hln]; exact hltj)
                by_cases hbj : B + j < len0
                · rcases (unhide HA) with e | ⟨b, off, rfl, hb, hc⟩
                  · omega
                  · have hcx := (hbe.cell (p := ⟨b, off + (B + j), none⟩) hb).trans (hc (B + j) hbj)
                    rw [show S (B + j) = nameAt len0 S (B + j) from by simp [nameAt, hbj]] at hcx
                    clear hc
                    go_wp2_with fail
                    go_round
                    case rel => exact ⟨j + 1, by omega, by go_num, by go_num⟩
                    case measure => simp [intOf]; omega
                · rw [show nameAt len0 S (B + j) = ⟨#[]⟩ from by simp [nameAt, hbj]] at hnm
                  go_wp2_with fail
                  go_round
                  case rel => exact ⟨j + 1, by omega, by go_num, by go_num⟩
                  case measure => simp [intOf]; omega
              · obtain rfl : j = ln := by omega
                go_wp2_with fail
                have x1 := unhide Hbs
                have x2 := unhide HB
                have x3 := unhide Hg1
                have x4 := unhide Hcap
                have x5 := unhide Hend1
                have x6 := unhide Hend2
                go_round
                case rel => exact ⟨_, .int .i64 (bef (q + 1) : Nat), .int .i64 (B + j : Nat), _, _, _, _, _, .int .i64 (q + 1 : Nat), ⟨q + 1, by omega, rfl, rfl, B + j, rfl, fun h => by have := x5 h; omega, fun h => by have := x6 h; omega⟩, rfl, congrArg (Value.int .i64) (by omega), by go_num, rfl, rfl, rfl, rfl, rfl, by go_num⟩
                case measure => simp [intOf]; omega
        · obtain rfl : q = chs.length := by omega
          obtain rfl := hy2 rfl
          have e1 : ((y' : Int) == (len0 : Int) + (r : Int)) = true := by rw [beq_iff_eq]; omega
          go_wp2_with fail
          go_ret
          exact ⟨rfl, hbe⟩

set_option maxRecDepth 100000 in
set_option maxHeartbeats 400000 in
theorem order_long (a0 : Option Addr) (len0 cap0 : Nat) (x : Int) (w : World) (h0 : 1024 < len0) (h1 : len0 ≤ 9223372036854775807) :
    Calls Yba.prog 3 #[.slice a0 len0 cap0, .int .u16 x] w fun e w' => e = .returned (.bool true) ∧ Below w.heap.size w w' := by
  have d0 : decide ((1024 : Int) < (len0 : Int)) = true := by simp; omega
  go_enter Yba.func3, Yba.ntmps3
  go_wp2_with fail
  go_ret
  exact ⟨rfl, Below.refl _ _⟩

theorem order_any (a0 : Option Addr) (len0 cap0 : Nat) (S : Nat → ByteArray) (x : Int) (w : World) (h0 : len0 ≤ 9223372036854775807) (hx0 : 0 ≤ x) (hx1 : x ≤ 65535) (hA : ArgStrs w a0 len0 S) :
    Calls Yba.prog 3 #[.slice a0 len0 cap0, .int .u16 x] w fun e w' => e = .returned (.bool true) ∧ Below w.heap.size w w' := by
  by_cases h : 1024 < len0
  · exact order_long a0 len0 cap0 x w h h0
  · exact order_walk a0 len0 cap0 S x w (by omega) hx0 hx1 hA

end Go.Proofs.Ybulkbsmi
