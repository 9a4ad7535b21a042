/-
  Seat b3462aF: the walk of 'digits' (function 4).
-/
import Derived.Test.YbulkbsreFmtErr
namespace Go.Proofs.YbulkbsreFmt
open Go.RowKit Go.Extern.Stop Go.Stop Go.Extern
set_option linter.unusedVariables false

def Dig (c : Int) : Prop := 48 ≤ c ∧ c ≤ 57

/-- The first place from i on that holds no digit. -/
theorem run_end (Z : Nat → Int) (i n : Nat) (h : i ≤ n) : ∃ J, i ≤ J ∧ J ≤ n ∧ (∀ j, i ≤ j → j < J → Dig (Z j)) ∧ (J < n → ¬ Dig (Z J)) := by
  obtain ⟨m, rfl⟩ : ∃ m, n = i + m := ⟨n - i, by omega⟩
  clear h
  induction m with
  | zero => exact ⟨i, Nat.le_refl _, by omega, fun j h1 h2 => absurd h2 (by omega), fun h => absurd h (by omega)⟩
  | succ m ih =>
    obtain ⟨J, h1, h2, h3, h4⟩ := ih
    by_cases hJ : J < i + m
    · exact ⟨J, h1, by omega, h3, fun _ => h4 hJ⟩
    · obtain rfl : J = i + m := by omega
      by_cases hd : Dig (Z (i + m))
      · refine ⟨i + m + 1, by omega, by omega, fun j hj1 hj2 => ?_, fun h => absurd h (by omega)⟩
        by_cases hj : j < i + m
        · exact h3 j hj1 hj
        · obtain rfl : j = i + m := by omega
          exact hd
      · exact ⟨i + m, by omega, by omega, h3, fun _ => hd⟩

set_option maxRecDepth 100000 in
set_option maxHeartbeats 1000000 in
theorem digits_end (F : Interp) (a : Option Addr) (n cap : Nat) (w : World) (hF : F.answers w.tape) :
    Calls Ybaf.prog 4 #[.slice a n cap, .int .i64 n] w fun e w' => ∃ pb : Nat, e = .returned (.tuple #[.int .i64 0, .iface 28 (.pointer (some ⟨pb, 0, none⟩))]) ∧ w'.cell? ⟨pb, 0, none⟩ = some (.int .i64 n) ∧ w.heap.size ≤ pb ∧ Below w.heap.size w w' := by
  have H := hide (errEnd_walk F n w hF)
  go_enter Ybaf.func4, Ybaf.ntmps4
  go_wp2_with (go_at_call 5; refine (unhide H).mono ?_; rintro e w1 ⟨pb, rfl, hc, hs, hb⟩)
  go_ret2
  exact ⟨pb, rfl, hc, hs, hb⟩

set_option maxRecDepth 100000 in
set_option maxHeartbeats 1000000 in
theorem digits_bad (F : Interp) (b o n cap i : Nat) (z : Int) (w : World) (hF : F.answers w.tape) (hn : n ≤ 100000) (hi : i < n) (hc : w.cell? ⟨b, o + i, none⟩ = some (.int .u8 z)) (h0 : 0 ≤ z) (h1 : z ≤ 255) (hd : ¬ Dig z) :
    Calls Ybaf.prog 4 #[.slice (some ⟨b, o, none⟩) n cap, .int .i64 i] w fun e w' => ∃ pb : Nat, e = .returned (.tuple #[.int .i64 0, .iface 28 (.pointer (some ⟨pb, 0, none⟩))]) ∧ w'.cell? ⟨pb, 0, none⟩ = some (.int .i64 i) ∧ w.heap.size ≤ pb ∧ Below w.heap.size w w' := by
  have Hd := fun W => hide (isDigit_walk z false W h0 h1 (by simpa [Dig] using hd))
  have HF := hide hF
  have Hq := hide (quote_walk F z w hF h0 h1)
  clear hF hd
  go_enter Ybaf.func4, Ybaf.ntmps4
  go_wp2_with (first | (go_at_call 6; refine (unhide (Hd _)).mono ?_; rintro e w ⟨rfl, rfl⟩) | (go_at_call 8; refine (unhide Hq).mono ?_; rintro e w1 ⟨s, rfl, hb1⟩) | (go_at_call 7; refine (errorAt_bad F i w1.heap.size s (w1.alloc (.cells #[.iface 9 (.string s)] 20)) (by show F.answers w1.tape; rw [hb1.tape]; exact unhide HF) (by go_simp)).mono ?_; rintro e w2 ⟨pb, rfl, hc2, hs2, hb2⟩))
  go_ret2
  have hz := hb1.size
  rw [World.size_alloc] at hs2
  exact ⟨pb, rfl, hc2, by omega, (hb1.alloc hb1.size _).trans (hb2.mono (by rw [World.size_alloc]; omega))⟩

set_option maxRecDepth 100000 in
set_option maxHeartbeats 1000000 in
theorem digits_ok (b o n cap i J : Nat) (Z : Nat → Int) (w : World) (hn : n ≤ 100000) (hi : i < J) (hJ : J ≤ n) (hc : ∀ j, j < n → w.cell? ⟨b, o + j, none⟩ = some (.int .u8 (Z j)) ∧ 0 ≤ Z j ∧ Z j ≤ 255) (hd : ∀ j, i ≤ j → j < J → Dig (Z j)) (he : J < n → ¬ Dig (Z J)) :
    Calls Ybaf.prog 4 #[.slice (some ⟨b, o, none⟩) n cap, .int .i64 i] w fun e w' => e = .returned (.tuple #[.int .i64 J, .nilIface]) ∧ w' = w := by
  have Hc := hide hc
  have Hdg := hide hd
  have He := hide he
  have hci := (hc i (by omega)).1
  have Hd0 := fun W => hide (isDigit_walk (Z i) true W (hc i (by omega)).2.1 (hc i (by omega)).2.2 (by have := hd i (Nat.le_refl _) hi; simpa [Dig] using this))
  clear hc hd he
  generalize hzi : Z i = zi at hci Hd0
  clear hzi
  go_enter Ybaf.func4, Ybaf.ntmps4
  go_wp2_with (go_at_call 6; refine (unhide (Hd0 _)).mono ?_; rintro e w ⟨rfl, rfl⟩)
  clear hci Hd0
  go_loopw [1] (fun iv wr => ∃ k : Nat, i ≤ k ∧ k ≤ J ∧ iv = .int .i64 k ∧ wr = w) (fun iv _ => J - (intOf iv).toNat)
  case atStart => exact ⟨i, Nat.le_refl _, by omega, rfl, rfl⟩
  case round =>
    obtain ⟨k, hk1, hk2, rfl, rfl⟩ := hrel
    by_cases hlt : k < J
    · have hkn : k < n := by omega
      obtain ⟨hck, h0, h1⟩ := (unhide Hc) k hkn
      have Hd1 := fun W => hide (isDigit_walk (Z k) true W h0 h1 (by have := (unhide Hdg) k hk1 hlt; simpa [Dig] using this))
      generalize hzi : Z k = zk at hck Hd1 h0 h1
      clear hzi
      go_wp2_with (go_at_call 6; refine (unhide (Hd1 _)).mono ?_; rintro e w ⟨rfl, rfl⟩)
      exact ⟨⟨k + 1, by omega, by omega, by go_num, trivial⟩, by simp [intOf]; omega⟩
    · obtain rfl : k = J := by omega
      by_cases hkn : k < n
      · obtain ⟨hck, h0, h1⟩ := (unhide Hc) k hkn
        have Hd1 := fun W => hide (isDigit_walk (Z k) false W h0 h1 (by have := (unhide He) hkn; simpa [Dig] using this))
        generalize hzi : Z k = zk at hck Hd1 h0 h1
        clear hzi
        go_wp2_with (go_at_call 6; refine (unhide (Hd1 _)).mono ?_; rintro e w ⟨rfl, rfl⟩)
        go_ret2
        exact ⟨rfl, rfl⟩
      · go_wp2_with fail
        go_ret2
        exact ⟨rfl, rfl⟩

end Go.Proofs.YbulkbsreFmt
