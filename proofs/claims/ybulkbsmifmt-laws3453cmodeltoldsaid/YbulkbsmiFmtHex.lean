/-
  Seat b3453aF: the walks of '(*Decoder).peek' (function 9) and '(*Decoder).readHex4' (function 5).
-/
import Derived.Test.YbulkbsmiFmtRows
import Derived.WalkKit
import Derived.WalkSpells
import Derived.WalkLawsBesides
import Derived.Deep.QuietTactic
import Derived.BigQuiet
namespace Go.Proofs.YbulkbsmiFmt
open Go.RowKit
set_option linter.unusedVariables false

theorem hide {p : Prop} (h : p) : Hid p := h
theorem unhide {p : Prop} (h : Hid p) : p := h

set_option maxRecDepth 100000 in
set_option maxHeartbeats 400000 in
theorem peek_in (D b o len cap off : Nat) (z : Int) (w : World) (c0 : w.cell? ⟨D, 0, none⟩ = some (.slice (some ⟨b, o, none⟩) len cap)) (c1 : w.cell? ⟨D, 1, none⟩ = some (.int .i64 off)) (hlt : off < len) (hlen : len ≤ 9223372036854775807)
    (cz : w.cell? ⟨b, o + off, none⟩ = some (.int .u8 z)) :
    Calls Ybaf.prog 9 #[.pointer (some ⟨D, 0, none⟩)] w fun e w' => e = .returned (.int .u8 z) ∧ ∃ n, w' = w.drewN n := by
  have h1 : (off : Int) < (len : Int) := by omega
  have h2 : (0 : Int) ≤ (off : Int) := by omega
  go_enter Ybaf.func9, Ybaf.ntmps9
  go_wp2_with fail
  go_quiet (fail)
  go_wp2_with fail
  go_quiet (fail)
  go_wp2_with fail
  go_ret
  exact ⟨rfl, _, World.drewN_drewN _ _ _⟩

set_option maxRecDepth 100000 in
set_option maxHeartbeats 400000 in
theorem peek_end (D len cap off : Nat) (a : Option Addr) (w : World) (c0 : w.cell? ⟨D, 0, none⟩ = some (.slice a len cap)) (c1 : w.cell? ⟨D, 1, none⟩ = some (.int .i64 off)) (hlt : len ≤ off) (hlen : off ≤ 9223372036854775807) :
    Calls Ybaf.prog 9 #[.pointer (some ⟨D, 0, none⟩)] w fun e w' => e = .returned (.int .u8 0) ∧ ∃ n, w' = w.drewN n := by
  have h1 : (len : Int) ≤ (off : Int) := by omega
  go_enter Ybaf.func9, Ybaf.ntmps9
  go_wp2_with fail
  go_quiet (fail)
  go_wp2_with fail
  go_ret
  exact ⟨rfl, _, rfl⟩

/-- A hexadecimal digit's value, or -1. -/
def hexV (c : Int) : Int := if 48 ≤ c ∧ c ≤ 57 then c - 48 else if 97 ≤ c ∧ c ≤ 102 then c - 97 + 10 else if 65 ≤ c ∧ c ≤ 70 then c - 65 + 10 else -1

theorem hexV_le (c : Int) : hexV c ≤ 15 := by unfold hexV; split <;> (try split) <;> (try split) <;> omega
theorem hexV_dec {c : Int} (h : 48 ≤ c) (h' : c ≤ 57) : hexV c = c - 48 := by unfold hexV; rw [if_pos ⟨h, h'⟩]
theorem hexV_low {c : Int} (h : 97 ≤ c) (h' : c ≤ 102) : hexV c = c - 97 + 10 := by unfold hexV; rw [if_neg (by omega), if_pos ⟨h, h'⟩]
theorem hexV_up {c : Int} (h : 65 ≤ c) (h' : c ≤ 70) : hexV c = c - 65 + 10 := by unfold hexV; rw [if_neg (by omega), if_neg (by omega), if_pos ⟨h, h'⟩]
theorem hexV_cases {c : Int} (h : 0 ≤ hexV c) : (48 ≤ c ∧ c ≤ 57) ∨ (97 ≤ c ∧ c ≤ 102) ∨ (65 ≤ c ∧ c ≤ 70) := by
  unfold hexV at h
  split at h
  · exact .inl ‹_›
  · split at h
    · exact .inr (.inl ‹_›)
    · split at h
      · exact .inr (.inr ‹_›)
      · omega
theorem hexV_none {c : Int} (h : hexV c < 0) : ¬ (48 ≤ c ∧ c ≤ 57) ∧ ¬ (97 ≤ c ∧ c ≤ 102) ∧ ¬ (65 ≤ c ∧ c ≤ 70) := by
  refine ⟨fun ⟨a, b⟩ => ?_, fun ⟨a, b⟩ => ?_, fun ⟨a, b⟩ => ?_⟩
  · rw [hexV_dec a b] at h; omega
  · rw [hexV_low a b] at h; omega
  · rw [hexV_up a b] at h; omega

/-- What has been read behind k digits. -/
def acc (Z : Nat → Int) (off : Nat) : Nat → Int
  | 0 => 0
  | k + 1 => acc Z off k * 16 + hexV (Z (off + k))

theorem acc_bd (Z : Nat → Int) (off : Nat) : ∀ k, (∀ j, j < k → 0 ≤ hexV (Z (off + j))) → 0 ≤ acc Z off k ∧ acc Z off k < 16 ^ k
  | 0, _ => by simp [acc]
  | k + 1, h => by
    obtain ⟨h1, h2⟩ := acc_bd Z off k (fun j hj => h j (by omega))
    have h3 := h k (by omega)
    have h4 := hexV_le (Z (off + k))
    have h5 : acc Z off (k + 1) = acc Z off k * 16 + hexV (Z (off + k)) := rfl
    rw [h5, Int.pow_succ]
    omega
theorem acc_le {Z : Nat → Int} {off k : Nat} (h : ∀ j, j < k → 0 ≤ hexV (Z (off + j))) (hk : k ≤ 4) : 0 ≤ acc Z off k ∧ acc Z off k < 65536 := by
  have := acc_bd Z off k h
  match k, hk with
  | 0, _ => simp [acc]
  | 1, _ => simp at this; omega
  | 2, _ => simp at this; omega
  | 3, _ => simp at this; omega
  | 4, _ => simp at this; omega

theorem or4 {x y : Int} (h0 : 0 ≤ x) (h1 : x < 65536) (h2 : 0 ≤ y) (h3 : y < 16) : bits .or .i32 (x * 16) y = x * 16 + y :=
  bits_join .i32 31 (by decide) wraps_i32 4 (x * 16) y (by omega) (by show x * 16 % 16 = 0; omega) (by show x * 16 < 2147483648; omega) h2 h3 (by omega)

/-- A decoder in block D: its data 'sv', its offset, the rest of its cells 'tl'; the heap besides is as w's. -/
structure Dec (w wr : World) (D : Nat) (sv : Value) (off : Nat) (tl : Array Value) : Prop where
  blk : wr.heap[D]? = some (.cells (#[sv, .int .i64 off] ++ tl) 29 (0, 0))
  rest : ∀ k, k ≠ D → wr.heap[k]? = w.heap[k]?
  os : wr.os = w.os
  tape : wr.tape = w.tape
  output : wr.output = w.output
  size : wr.heap.size = w.heap.size

theorem Dec.start {w : World} {D : Nat} {sv : Value} {off : Nat} {tl : Array Value} (h : w.heap[D]? = some (.cells (#[sv, .int .i64 off] ++ tl) 29 (0, 0))) : Dec w w D sv off tl := ⟨h, fun _ _ => rfl, rfl, rfl, rfl, rfl⟩
theorem Dec.facts {w wr : World} {D : Nat} {sv : Value} {off : Nat} {tl : Array Value} (h : Dec w wr D sv off tl) : wr.cell? ⟨D, 0, none⟩ = some sv ∧ wr.cell? ⟨D, 1, none⟩ = some (.int .i64 off) ∧ wr.frozen? ⟨D, 1, none⟩ = false := by
  refine ⟨?_, ?_, ?_⟩
  · simp only [World.cell?, h.blk]
    rw [Array.getElem?_append_left (by simp)]; rfl
  · simp only [World.cell?, h.blk]
    rw [Array.getElem?_append_left (by simp)]; rfl
  · simp [World.frozen?, h.blk]
theorem Dec.next {w wr : World} {D : Nat} {sv : Value} {off : Nat} {tl : Array Value} (h : Dec w wr D sv off tl) (n : Nat) : Dec w ((wr.drewN n).setCell ⟨D, 1, none⟩ (.int .i64 ((off : Int) + 1))) D sv (off + 1) tl := by
  refine ⟨?_, fun k hk => (Below.heap_setCell _ _ _ _ hk).trans (h.rest k hk), h.os, h.tape, h.output, ?_⟩
  · rw [heap_setCell_same (wr.drewN n) D 1 _ 29 _ h.blk]
    congr 2
    apply Array.ext'
    simp
  · rw [show ((wr.drewN n).setCell ⟨D, 1, none⟩ (.int .i64 ((off : Int) + 1))).heap.size = wr.heap.size from by simp]
    exact h.size

set_option maxRecDepth 100000 in
set_option maxHeartbeats 1000000 in
theorem read_ok (D b o len cap off : Nat) (tl : Array Value) (Z : Nat → Int) (w : World) (hDb : b ≠ D) (hD : w.heap[D]? = some (.cells (#[.slice (some ⟨b, o, none⟩) len cap, .int .i64 off] ++ tl) 29 (0, 0)))
    (hlen : len ≤ 100000) (hof : off + 4 ≤ len) (hz : ∀ j, j < len → w.cell? ⟨b, o + j, none⟩ = some (.int .u8 (Z j)) ∧ 0 ≤ Z j ∧ Z j ≤ 255) (hx : ∀ j, j < 4 → 0 ≤ hexV (Z (off + j))) :
    Calls Ybaf.prog 5 #[.pointer (some ⟨D, 0, none⟩)] w fun e w' => e = .returned (.tuple #[.int .i32 (acc Z off 4), .nilIface]) ∧ Dec w w' D (.slice (some ⟨b, o, none⟩) len cap) (off + 4) tl := by
  have Hz := hide hz
  have Hx := hide hx
  have HD := hide (Dec.start hD)
  clear hz hx hD
  go_enter Ybaf.func5, Ybaf.ntmps5
  go_wp2_with fail
  go_loopw [4, 6] (fun r i wr => ∃ (k : Nat), k ≤ 4 ∧ i = .int .i64 k ∧ r = .int .i32 (acc Z off k) ∧ Dec w wr D (.slice (some ⟨b, o, none⟩) len cap) (off + k) tl) (fun _ i _ => 4 - (intOf i).toNat)
  case atStart => exact ⟨0, by omega, rfl, rfl, unhide HD⟩
  case round =>
    obtain ⟨k, hk, rfl, rfl, hDec⟩ := hrel
    by_cases hlt : k < 4
    · obtain ⟨d0, d1, g1⟩ := hDec.facts
      have hz1 : wr.cell? ⟨b, o + (off + k), none⟩ = some (.int .u8 (Z (off + k))) := (World.cell?_of_block (a := ⟨b, o + (off + k), none⟩) (hDec.rest b hDb)).trans ((unhide Hz) (off + k) (by omega)).1
      have Hp := hide (peek_in D b o len cap (off + k) (Z (off + k)) wr d0 d1 (by omega) (by omega) hz1)
      obtain ⟨hz0, hz255⟩ := ((unhide Hz) (off + k) (by omega)).2
      have hv := (unhide Hx) k hlt
      have hR := acc_le (Z := Z) (off := off) (k := k) (fun j hj => (unhide Hx) j (by omega)) hk
      have Hacc : Hid (acc Z off (k + 1) = acc Z off k * 16 + hexV (Z (off + k))) := hide rfl
      have HDec := hide hDec
      have hcs := hexV_cases hv
      have Hvle := hide (hexV_le (Z (off + k)))
      clear hDec hz1 hv
      generalize hzz : Z (off + k) = z at Hp hz0 hz255 hcs Hacc Hvle
      generalize hRR : acc Z off k = R at hR Hacc ⊢
      clear hzz hRR
      obtain ⟨hR0, hR1⟩ := hR
      rcases hcs with ⟨h1, h2⟩ | ⟨h1, h2⟩ | ⟨h1, h2⟩
      all_goals
        go_wp2_with (go_at_call 9; refine (unhide Hp).mono ?_; rintro e w1 ⟨rfl, n, rfl⟩)
        go_roundw
        case rel => exact ⟨k + 1, by omega, by go_num, congrArg (Value.int .i32) (by rw [unhide Hacc, or4 hR0 hR1 (by omega) (by omega)]; first | rw [hexV_dec h1 h2] | rw [hexV_low h1 h2] | rw [hexV_up h1 h2]), (unhide HDec).next n⟩
        case measure => simp [intOf]; omega
    · obtain rfl : k = 4 := by omega
      go_wp2_with fail
      go_ret2
      exact ⟨rfl, hDec⟩

end Go.Proofs.YbulkbsmiFmt
