/-
  Seat b3453aF: 'zzs3453chex' (function 6), 'bytes.Equal' (function 7) at two slices of the same bytes, and '(*Decoder).readHex4' (function 5) where the K-th byte, K < 4, is no hexadecimal digit or not there.
-/
import Derived.Test.YbulkbsmiFmtDigits
import Derived.Test.YbulkbsmiFmtIs
import Derived.Shelf.Bytes.SlEqualAll
namespace Go.Proofs.YbulkbsmiFmt
open Go.RowKit Go.Extern.Stop Go.Stop Go.Extern
set_option linter.unusedVariables false

set_option maxRecDepth 100000 in
set_option maxHeartbeats 400000 in
theorem hex_walk (c : Int) (w : World) (h0 : 0 ≤ c) (h1 : c ≤ 255) :
    Calls Ybaf.prog 6 #[.int .u8 c] w fun e w' => e = .returned (.int .i64 (hexV c)) ∧ w' = w := by
  by_cases c1 : 48 ≤ c ∧ c ≤ 57
  · obtain ⟨a1, a2⟩ := c1
    have hv := hide (hexV_dec a1 a2)
    go_enter Ybaf.func6, Ybaf.ntmps6
    go_wp2_with fail
    go_ret
    exact ⟨by rw [unhide hv]; rfl, rfl⟩
  · by_cases c2 : 97 ≤ c ∧ c ≤ 102
    · obtain ⟨a1, a2⟩ := c2
      have hv := hide (hexV_low a1 a2)
      have b1 : ¬ c ≤ 57 := by omega
      have b2 : 48 ≤ c := by omega
      go_enter Ybaf.func6, Ybaf.ntmps6
      go_wp2_with fail
      go_ret
      exact ⟨by rw [unhide hv]; rfl, rfl⟩
    · by_cases c3 : 65 ≤ c ∧ c ≤ 70
      · obtain ⟨a1, a2⟩ := c3
        have hv := hide (hexV_up a1 a2)
        have b1 : ¬ c ≤ 57 := by omega
        have b2 : 48 ≤ c := by omega
        have b3 : ¬ 97 ≤ c := by omega
        go_enter Ybaf.func6, Ybaf.ntmps6
        go_wp2_with fail
        go_ret
        exact ⟨by rw [unhide hv]; rfl, rfl⟩
      · have hv : Hid (hexV c = -1) := hide (by unfold hexV; rw [if_neg c1, if_neg c2, if_neg c3])
        go_enter Ybaf.func6, Ybaf.ntmps6
        go_wp2_with fail
        all_goals first | omega | (go_ret; exact ⟨by rw [unhide hv]; rfl, rfl⟩)

/-- bytes.Equal where both are the same bytes. -/
theorem equal_walk (p1 p2 : Option Addr) (n c d : Nat) (xs : List Int) (w : World) (hx : xs.length = n) (h1 : Lib.BytesIn w p1 n xs) (h2 : Lib.BytesIn w p2 n xs) :
    Calls Ybaf.prog 7 #[.slice p1 n c, .slice p2 n d] w fun e w' => e = .returned (.bool true) ∧ w' = w := by
  have e1 := h1.convert (P := Ybaf.prog) hx c 22 5 9 Ybaf.underlying22 Ybaf.underlying5 Ybaf.underlying9
  have e2 := h2.convert (P := Ybaf.prog) hx d 22 5 9 Ybaf.underlying22 Ybaf.underlying5 Ybaf.underlying9
  clear h1 h2
  generalize strOfNums xs = s at e1 e2
  go_enter Ybaf.func7, Ybaf.ntmps7
  go_wp2_with fail
  go_ret
  exact ⟨by simp, rfl⟩

set_option maxRecDepth 100000 in
set_option maxHeartbeats 1000000 in
theorem read_bad (F : Interp) (D off K : Nat) (sv : Value) (tl : Array Value) (Y : Nat → Int) (a : Addr) (s : ByteArray) (w : World) (hF : F.answers w.tape) (hD : w.heap[D]? = some (.cells (#[sv, .int .i64 off] ++ tl) 29 (0, 0)))
    (h0 : D ≠ 0) (hg : w.cell? ⟨0, 0, none⟩ = some (.iface 62 (.pointer (some a)))) (ha : a.block ≠ D) (hs : w.cell? a = some (.string s)) (hK : K < 4) (hof : off ≤ 100000)
    (hpk : ∀ k, k ≤ K → ∀ wr, Dec w wr D sv (off + k) tl → Calls Ybaf.prog 9 #[.pointer (some ⟨D, 0, none⟩)] wr fun e w' => e = .returned (.int .u8 (Y k)) ∧ ∃ n, w' = wr.drewN n)
    (hY : ∀ k, k ≤ K → 0 ≤ Y k ∧ Y k ≤ 255) (hx : ∀ j, j < K → 0 ≤ hexV (Y j)) (hbad : hexV (Y K) < 0) :
    Calls Ybaf.prog 5 #[.pointer (some ⟨D, 0, none⟩)] w fun e w' => ∃ w1 pb, Dec w w1 D sv (off + K) tl ∧ Below w1.heap.size w1 w' ∧ w1.heap.size ≤ pb ∧ e = .returned (.tuple #[.int .i32 0, .iface 61 (.pointer (some ⟨pb, 0, none⟩))]) ∧ w'.cell? ⟨pb, 1, none⟩ = some (.iface 62 (.pointer (some a))) := by
  have Hp := hide hpk
  have HY := hide hY
  have Hx := hide hx
  have HD := hide (Dec.start hD)
  have HF := hide hF
  have Hg := hide hg
  have Hs := hide hs
  clear hpk hY hx hD hF hg hs
  go_enter Ybaf.func5, Ybaf.ntmps5
  go_wp2_with fail
  go_loopw [4, 6] (fun r i wr => ∃ (k : Nat), k ≤ K ∧ i = .int .i64 k ∧ (∃ R : Int, r = .int .i32 R ∧ 0 ≤ R ∧ R < 65536 ∧ R = acc Y 0 k) ∧ Dec w wr D sv (off + k) tl) (fun _ i _ => 4 - (intOf i).toNat)
  case atStart => exact ⟨0, by omega, rfl, ⟨0, rfl, by omega, by omega, rfl⟩, unhide HD⟩
  case round =>
    obtain ⟨k, hk, rfl, ⟨R, rfl, hR0, hR1, hRk⟩, hDec⟩ := hrel
    have hk4 : k < 4 := by omega
    have Hq := hide ((unhide Hp) k hk wr hDec)
    obtain ⟨hz0, hz255⟩ := (unhide HY) k hk
    obtain ⟨d0, d1, g1⟩ := hDec.facts
    by_cases hlt : k < K
    · have hv := (unhide Hx) k hlt
      have Hacc : Hid (acc Y 0 (k + 1) = acc Y 0 k * 16 + hexV (Y (0 + k))) := hide rfl
      rw [Nat.zero_add, ← hRk] at Hacc
      have Hb := hide (acc_le (Z := Y) (off := 0) (k := k + 1) (fun j hj => by rw [Nat.zero_add]; exact (unhide Hx) j (by omega)) (by omega))
      have HDec := hide hDec
      have hcs := hexV_cases hv
      have Hvle := hide (hexV_le (Y k))
      clear hDec hv hRk
      generalize hzz : Y k = z at Hq hz0 hz255 hcs Hacc Hvle
      clear hzz
      rcases hcs with ⟨h1, h2⟩ | ⟨h1, h2⟩ | ⟨h1, h2⟩
      all_goals
        go_wp2_with (go_at_call 9; refine (unhide Hq).mono ?_; rintro e w1 ⟨rfl, n, rfl⟩)
        go_roundw
        case rel =>
          refine ⟨k + 1, by omega, by go_num, ⟨acc Y 0 (k + 1), congrArg (Value.int .i32) ?_, (unhide Hb).1, (unhide Hb).2, rfl⟩, (unhide HDec).next n⟩
          rw [unhide Hacc, or4 hR0 hR1 (by omega) (by omega)]
          first | rw [hexV_dec h1 h2] | rw [hexV_low h1 h2] | rw [hexV_up h1 h2]
        case measure => simp [intOf]; omega
    · obtain rfl : k = K := by omega
      obtain ⟨n1, n2, n3⟩ := hexV_none hbad
      have Hsyn : ∀ m (r : ByteArray), Hid (Calls Ybaf.prog 10 #[.string r] (wr.drewN m) fun e w' => ∃ (pb : Nat), e = .returned (.iface 61 (.pointer (some ⟨pb, 0, none⟩))) ∧ w'.cell? ⟨pb, 1, none⟩ = some (.iface 62 (.pointer (some a))) ∧ (wr.drewN m).heap.size ≤ pb ∧ Below (wr.drewN m).heap.size (wr.drewN m) w') := fun m r =>
        hide (syntax_walk F r s a (wr.drewN m) (by show F.answers wr.tape; rw [hDec.tape]; exact unhide HF) ((World.cell?_of_block (a := ⟨0, 0, none⟩) (hDec.rest 0 (fun e => h0 e.symm))).trans (unhide Hg)) ((World.cell?_of_block (hDec.rest a.block ha)).trans (unhide Hs)))
      have HDec := hide hDec
      generalize hzz : Y k = z at Hq hz0 hz255 n1 n2 n3 hbad
      clear hzz hDec
      go_wp2_with (first | (go_at_call 9; refine (unhide Hq).mono ?_; rintro e w1 ⟨rfl, n, rfl⟩) | (go_at_call 10; refine (unhide (Hsyn _ _)).mono ?_; rintro e w2 ⟨pb, rfl, hpb, hsz, hbel⟩))
      all_goals
        go_ret2
        exact ⟨wr, pb, unhide HDec, ⟨hbel.os, hbel.tape, hbel.output, hbel.size, hbel.block⟩, hsz, rfl, hpb⟩

end Go.Proofs.YbulkbsmiFmt
