/-
  Seat b3455aF: zzs3455cbits (6).
-/
import Derived.Test.YbulkbsnkFmtEq
namespace Go.Proofs.YbulkbsnkFmt
open Go.RowKit
set_option linter.unusedVariables false

theorem msgO_le {len : Nat} {P : Nat → Int} {j k r L : Nat} (h : msgO len P j k r = some L) : L ≤ 1000 := by
  unfold msgO at h
  split at h
  · split at h
    · cases h
    · simp only [Option.some.injEq] at h
      omega
  · cases h

/-- The bits of round k, own count. -/
def bitsSum (len : Nat) (P : Nat → Int) (rel : Nat → Bool) (n k : Nat) : Nat → Int
  | 0 => 0
  | i + 1 => bitsSum len P rel n k i + (if (rel i && sendsB len P i k) = true then costSum (msgO len P i k) i n else 0)
theorem bitsSum_bd (len : Nat) (P : Nat → Int) (rel : Nat → Bool) (n k : Nat) : ∀ i, 0 ≤ bitsSum len P rel n k i ∧ bitsSum len P rel n k i ≤ 1000 * n * i
  | 0 => by simp [bitsSum]
  | i + 1 => by
    obtain ⟨h1, h2⟩ := bitsSum_bd len P rel n k i
    obtain ⟨h3, h4⟩ := costSum_bd (msgO len P i k) i (fun _ _ h => msgO_le h) n
    have : 0 ≤ (if (rel i && sendsB len P i k) = true then costSum (msgO len P i k) i n else 0) ∧ (if (rel i && sendsB len P i k) = true then costSum (msgO len P i k) i n else 0) ≤ 1000 * n := by
      split <;> omega
    simp only [bitsSum]
    rw [show (1000 : Int) * n * ((i + 1 : Nat) : Int) = 1000 * n * i + 1000 * n by rw [Int.natCast_add, Int.mul_add]; simp]
    omega

theorem ArgB.below {w w' : World} {a : Option Addr} {len : Nat} {P : Nat → Int} {B : Nat} (h : ArgB w a len P) (hB : ∀ b, a = some b → b.block < B) (hb : Below B w w') : ArgB w' a len P := by
  intro h0
  obtain ⟨b, o, rfl, hc⟩ := h h0
  exact ⟨b, o, rfl, fun j hj => ⟨(hb.cell (p := ⟨b, o + j, none⟩) (hB ⟨b, o, none⟩ rfl)).trans (hc j hj).1, (hc j hj).2⟩⟩
theorem ArgB.blt {w : World} {a : Option Addr} {len : Nat} {P : Nat → Int} (h : ArgB w a len P) (h0 : 0 < len) : ∀ b, a = some b → b.block < w.heap.size := by
  obtain ⟨b, o, rfl, hc⟩ := h h0
  intro c e
  cases e
  exact World.block_lt_of_cell? w _ (hc 0 h0).1
theorem ArgB.keep {w w' : World} {a : Option Addr} {len : Nat} {P : Nat → Int} (h : ArgB w a len P) (hb : Below w.heap.size w w') : ArgB w' a len P := by
  intro h0
  exact ArgB.below h (h.blt h0) hb h0

set_option maxRecDepth 100000 in
set_option maxHeartbeats 1000000 in
theorem bits_walk (a : Option Addr) (len cap : Nat) (P : Nat → Int) (rb rcap n k : Nat) (rel : Nat → Bool) (w : World) (hl : len ≤ 1024) (hn : n ≤ 4) (hk : k ≤ 1000) (hA : ArgB w a len P) (hR : ∀ i, i < n → w.cell? ⟨rb, i, none⟩ = some (.bool (rel i))) :
    Calls Ybaf.prog 6 #[.slice a len cap, .slice (some ⟨rb, 0, none⟩) n rcap, .int .i64 n, .int .i64 k] w fun e w' => e = .returned (.int .i64 (bitsSum len P rel n k n)) ∧ Below w.heap.size w w' := by
  have HA := hide hA
  have HR := hide hR
  clear hA hR
  go_enter Ybaf.func6, Ybaf.ntmps6
  go_wp2_with fail
  go_loopw [9, 10] (fun bv iv wr => ∃ i : Nat, i ≤ n ∧ iv = .int .i64 i ∧ bv = .int .i64 (bitsSum len P rel n k i) ∧ Below w.heap.size w wr) (fun _ iv _ => n - (intOf iv).toNat)
  case atStart => exact ⟨0, by omega, rfl, rfl, Below.refl _ w⟩
  case round =>
    obtain ⟨i, hi, rfl, rfl, hbe⟩ := hrel
    by_cases hlt : i < n
    · have hri : wr.cell? ⟨rb, i, none⟩ = some (.bool (rel i)) := (hbe.cell (p := ⟨rb, i, none⟩) (World.block_lt_of_cell? w _ ((unhide HR) i hlt))).trans ((unhide HR) i hlt)
      have Hs := hide (sends_walk a len cap P i k wr hl (by omega) hk ((unhide HA).keep hbe))
      have hb := bitsSum_bd len P rel n k i
      have Hsum : Hid (bitsSum len P rel n k (i + 1) = bitsSum len P rel n k i + (if (rel i && sendsB len P i k) = true then costSum (msgO len P i k) i n else 0)) := hide rfl
      have hb' : 0 ≤ bitsSum len P rel n k i ∧ bitsSum len P rel n k i ≤ 1000000 := by
        have e : (1000 : Int) * n * i = ((1000 * n * i : Nat) : Int) := by push_cast; rfl
        have := Nat.mul_le_mul (Nat.mul_le_mul (Nat.le_refl 1000) hn) (show i ≤ 4 by omega)
        omega
      clear hb
      obtain ⟨R, hRR⟩ : ∃ R, R = bitsSum len P rel n k i := ⟨_, rfl⟩
      rw [← hRR] at hb' Hsum ⊢
      clear hRR
      obtain ⟨hb0, hb1⟩ := hb'
      have Hbe := hide hbe
      clear hbe
      cases hrl : rel i with
      | false =>
        rw [hrl] at hri Hsum
        go_wp2_with fail
        exact ⟨⟨i + 1, by omega, by go_num, by rw [unhide Hsum]; simp, unhide Hbe⟩, by simp [intOf]; omega⟩
      | true =>
        rw [hrl] at hri Hsum
        cases hsd : sendsB len P i k with
        | false =>
          rw [hsd] at Hs Hsum
          go_wp2_with (go_at_call 9; refine (unhide Hs).mono ?_; rintro e wr ⟨rfl, rfl⟩)
          exact ⟨⟨i + 1, by omega, by go_num, by rw [unhide Hsum]; simp, unhide Hbe⟩, by simp [intOf]; omega⟩
        | true =>
          rw [hsd] at Hs Hsum
          go_wp2_with (go_at_call 9; refine (unhide Hs).mono ?_; rintro e wr ⟨rfl, rfl⟩)
          clear hri
          go_loopw [9, 11] (fun bv iv wq => ∃ r : Nat, r ≤ n ∧ iv = .int .i64 r ∧ bv = .int .i64 (R + costSum (msgO len P i k) i r) ∧ Below w.heap.size w wq) (fun _ iv _ => n - (intOf iv).toNat)
          case atStart => exact ⟨0, by omega, rfl, by simp [costSum], unhide Hbe⟩
          case round =>
            obtain ⟨r, hr, rfl, rfl, hbq⟩ := hrel
            by_cases hlt2 : r < n
            · have Hm := hide (msg_walk a len cap P i k r wr hl (by omega) hk (by omega) ((unhide HA).keep hbq))
              have hcb := costSum_bd (msgO len P i k) i (fun _ _ h => msgO_le h) r
              have Hc : Hid (costSum (msgO len P i k) i (r + 1) = costSum (msgO len P i k) i r + (if r = i then 0 else mcost (msgO len P i k r))) := hide rfl
              have hLe := fun L (h : msgO len P i k r = some L) => msgO_le h
              generalize costSum (msgO len P i k) i r = C at hcb Hc ⊢
              generalize msgO len P i k r = oo at Hm Hc hLe
              have Hbq := hide hbq
              clear hbq
              obtain ⟨hC0, hC1⟩ := hcb
              by_cases hri : r = i
              · rw [if_pos hri] at Hc
                subst hri
                clear Hm hLe
                go_wp2_with fail
                exact ⟨⟨r + 1, by omega, by go_num, by rw [unhide Hc]; simp, unhide Hbq⟩, by simp [intOf]; omega⟩
              · rw [if_neg hri] at Hc
                have hbq1 : ((r : Int) == (i : Int)) = false := by simp; omega
                have hE := eql_nil
                cases oo with
                | none =>
                  go_wp2_with (go_at_call 10; refine (unhide Hm).mono ?_; rintro e w2 ⟨v, rfl, hv, hb2, -⟩; obtain rfl : v = .slice none 0 0 := hv)
                  exact ⟨⟨r + 1, by omega, by go_num, by rw [unhide Hc]; simp [mcost], (unhide Hbq).trans (hb2.mono (unhide Hbq).size)⟩, by simp [intOf]; omega⟩
                | some L =>
                  have hL := hLe L rfl
                  by_cases hL0 : L = 0
                  · subst hL0
                    go_wp2_with (go_at_call 10; refine (unhide Hm).mono ?_; rintro e w2 ⟨v, rfl, hv, hb2, -⟩; obtain ⟨bb, rfl, -⟩ := hv)
                    exact ⟨⟨r + 1, by omega, by go_num, by rw [unhide Hc, Int.add_assoc]; rfl, (unhide Hbq).trans (hb2.mono (unhide Hbq).size)⟩, by simp [intOf]; omega⟩
                  · have hLq : ((L : Int) == 0) = false := by simp; omega
                    go_wp2_with (go_at_call 10; refine (unhide Hm).mono ?_; rintro e w2 ⟨v, rfl, hv, hb2, -⟩; obtain ⟨bb, rfl, -⟩ := hv)
                    refine ⟨⟨r + 1, by omega, by go_num, congrArg (Value.int .i64) ?_, (unhide Hbq).trans (hb2.mono (unhide Hbq).size)⟩, by simp [intOf]; omega⟩
                    rw [unhide Hc]
                    simp only [mcost]
                    omega
            · obtain rfl : r = n := by omega
              go_wp2_with fail
              exact ⟨⟨i + 1, by omega, by go_num, by rw [unhide Hsum]; simp, hbq⟩, by simp [intOf]; omega⟩
    · obtain rfl : i = n := by omega
      go_wp2_with fail
      go_ret
      exact ⟨rfl, hbe⟩

end Go.Proofs.YbulkbsnkFmt
