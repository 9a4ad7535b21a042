/-
  Seat b3453aF: the walk of LawS3453CModel (function 3).
-/
import Derived.Test.YbulkbsmiFmtBad
import Derived.Laws.CopyOwn
namespace Go.Proofs.YbulkbsmiFmt
open Go.RowKit Go.Extern.Stop Go.Stop Go.Extern
set_option linter.unusedVariables false

/-- How many of the next four are hexadecimal digits. -/
theorem first_bad (Z : Nat → Int) (off len : Nat) : ∃ K, K ≤ 4 ∧ (∀ j, j < K → off + j < len ∧ 0 ≤ hexV (Z (off + j))) ∧ (K < 4 → len ≤ off + K ∨ (off + K < len ∧ hexV (Z (off + K)) < 0)) := by
  suffices h : ∀ m, m ≤ 4 → ∃ K, K ≤ m ∧ (∀ j, j < K → off + j < len ∧ 0 ≤ hexV (Z (off + j))) ∧ (K < m → len ≤ off + K ∨ (off + K < len ∧ hexV (Z (off + K)) < 0)) from h 4 (Nat.le_refl _)
  intro m
  induction m with
  | zero => exact fun _ => ⟨0, Nat.le_refl _, fun j hj => absurd hj (by omega), fun h => absurd h (by omega)⟩
  | succ m ih =>
    intro hm
    obtain ⟨K, h1, h2, h3⟩ := ih (by omega)
    by_cases hK : K < m
    · exact ⟨K, by omega, h2, fun _ => h3 hK⟩
    · obtain rfl : K = m := by omega
      by_cases hb : off + K < len ∧ 0 ≤ hexV (Z (off + K))
      · refine ⟨K + 1, Nat.le_refl _, fun j hj => ?_, fun h => absurd h (by omega)⟩
        by_cases hj' : j < K
        · exact h2 j hj'
        · obtain rfl : j = K := by omega
          exact hb
      · refine ⟨K, by omega, h2, fun _ => ?_⟩
        by_cases hl : off + K < len
        · refine .inr ⟨hl, ?_⟩
          rcases Int.lt_or_le (hexV (Z (off + K))) 0 with h | h
          · exact h
          · exact absurd ⟨hl, h⟩ hb
        · exact .inl (by omega)

theorem owned_block {w : World} {base g n : Nat} {xs : List Value} (h : w.ownsRow base 5 1 (.slice (some ⟨g, 0, none⟩) n n) n xs) : base ≤ g ∧ ∃ cur : List Value, w.heap[g]? = some (.cells cur.toArray 5 (0, 0)) ∧ cur.length = n := by
  rcases h.2 with ⟨e, -⟩ | ⟨g', cap, cur, e, hb, hh, -, -, hc, -⟩
  · cases e
  · cases e
    exact ⟨hb, cur.toList, by simpa using hh, by simpa using hc⟩

theorem splice_all (cur cs : List Value) (h : cur.length = cs.length) : splice cur 0 cs = cs := by
  simp [splice, ← h]

theorem seg_cell {w : World} {g n : Nat} {Z : Nat → Int} (h : w.heap[g]? = some (.cells (seg Z 0 n).toArray 5 (0, 0))) (j : Nat) (hj : j < n) : w.cell? ⟨g, j, none⟩ = some (.int .u8 (Z j)) := by
  simp [World.cell?, h, seg, hj]

set_option maxRecDepth 100000 in
set_option maxHeartbeats 400000 in
theorem model_long (a0 : Option Addr) (n cap : Nat) (x : Int) (w : World) (h : 1024 < n) :
    Calls Ybaf.prog 3 #[.slice a0 n cap, .int .u8 x] w fun e w' => e = .returned (.bool true) ∧ Below w.heap.size w w' := by
  have h' : (1024 : Int) < (n : Int) := by omega
  go_enter Ybaf.func3, Ybaf.ntmps3
  go_wp2_with fail
  go_ret
  exact ⟨rfl, Below.refl _ w⟩

set_option maxRecDepth 100000 in
set_option maxHeartbeats 4000000 in
theorem model_walk (F : Interp) (ad : Addr) (n cap : Nat) (x : Int) (P : Nat → Int) (a : Addr) (s : ByteArray) (w : World) (hn : n ≤ 1024) (hx0 : 0 ≤ x) (hx1 : x ≤ 255) (hc : ∀ j, j < n → w.cell? (ad.add j) = some (.int .u8 (P j)) ∧ 0 ≤ P j ∧ P j ≤ 255)
    (hF : F.answers w.tape) (hg : w.cell? ⟨0, 0, none⟩ = some (.iface 62 (.pointer (some a)))) (hs : w.cell? a = some (.string s)) :
    Calls Ybaf.prog 3 #[.slice (some ad) n cap, .int .u8 x] w fun e w' => e = .returned (.bool true) ∧ Below w.heap.size w w' := by
  obtain ⟨i0, hi, hz0, hz1, hz2⟩ := info_parts info5
  have hsz5 : (Ybaf.prog.info? 5).map (·.size) = some 1 := by kernel_rfl
  have Hc := hide hc
  have HF := hide hF
  have Hg := hide hg
  have Hs := hide hs
  clear hc hF hg hs
  have d0 : decide ((1024 : Int) < (n : Int)) = false := by simp; omega
  obtain ⟨off, hoff⟩ : ∃ off : Nat, x % ((n : Int) + 1) = (off : Int) := ⟨(x % ((n : Int) + 1)).toNat, by have := Int.emod_nonneg x (show ((n : Int) + 1) ≠ 0 by omega); omega⟩
  have hoffn : off ≤ n := by have := Int.emod_lt_of_pos x (show 0 < ((n : Int) + 1) by omega); omega
  go_enter Ybaf.func3, Ybaf.ntmps3
  go_wp2_with (first | (at_make; refine wpList_make_full _ rfl _ _ 22 rfl w.heap.size 5 i0 _ 1 Ybaf.underlying22 hi hz0 hz1 _ _ _ _ n rfl rfl rfl rfl (by rw [hz2]; omega) (by unfold maxLen; omega) (Nat.le_refl _) ?_; intro wm hown hgm; obtain ⟨-, cur, hcur, hcl⟩ := owned_block hown; have hbm : Below w.heap.size w wm := (Below.refl _ w).grown hgm (Nat.le_refl _) (by simp); have hsrc := (arg_news (cap := cap) (.inr ⟨ad, rfl, unhide Hc⟩) hbm P 0 (fun j hj => by rw [Nat.zero_add])).2 ad rfl; clear hown hgm) | (refine wpList_copy_splice rfl (.tmp 23) (.tmp 24) 22 22 rfl 5 Ybaf.underlying22 hsz5 _ _ _ _ _ _ rfl rfl w.heap.size 0 cur 5 hcur (seg P 0 n) (by rw [seg_length]; exact (Nat.min_self n).symm) (fun _ => ⟨rfl, ad, rfl, hsrc⟩) (by rw [seg_length]; omega) (seg_one _ _ _) w.heap.size w hbm (Nat.le_refl _) ?_; intro wc hwc hbc) | (refine wpList_build_is rfl 29 _ rfl [(0,.slice (some ⟨w.heap.size,0,none⟩) n n), (1,.int .i64 (x % ((n : Int) + 1)))] rfl _ (built29 _ _ _ _) ?_; rw [hoff]))
  have hD1 := heap_alloc_new wc (.cells (#[Value.slice (some ⟨w.heap.size, 0, none⟩) n n, .int .i64 off] ++ tl29) 29)
  have hgc : w.heap.size < wc.heap.size := by
    rcases Nat.lt_or_ge w.heap.size wc.heap.size with h | h
    · exact h
    · have := unhide hwc
      rw [Array.getElem?_eq_none h] at this
      cases this
  have hrow1 : (wc.alloc (.cells (#[Value.slice (some ⟨w.heap.size, 0, none⟩) n n, .int .i64 off] ++ tl29) 29)).heap[w.heap.size]? = some (.cells (seg P 0 n).toArray 5 (0, 0)) := by
    rw [Below.heap_alloc _ _ _ hgc, unhide hwc, splice_all cur _ (by rw [seg_length]; exact hcl)]
  have hb1 : Below w.heap.size w (wc.alloc (.cells (#[Value.slice (some ⟨w.heap.size, 0, none⟩) n n, .int .i64 off] ++ tl29) 29)) := hbc.alloc (Nat.le_of_lt hgc) _
  obtain ⟨W1, hW1⟩ : ∃ W1, W1 = wc.alloc (.cells (#[Value.slice (some ⟨w.heap.size, 0, none⟩) n n, .int .i64 off] ++ tl29) 29) := ⟨_, rfl⟩
  rw [← hW1] at hD1 hrow1 hb1 ⊢
  obtain ⟨D, hD⟩ : ∃ D, D = wc.heap.size := ⟨_, rfl⟩
  rw [← hD] at hD1 hgc ⊢
  obtain ⟨g, hgg⟩ : ∃ g, g = w.heap.size := ⟨_, rfl⟩
  rw [← hgg] at hD1 hrow1 hgc hb1 ⊢
  have hsrc1 : ∀ j, j < n → w.cell? (ad.add j) = some (.int .u8 (P j)) := fun j hj => ((unhide Hc) j hj).1
  have hag : a.block < g := by rw [hgg]; exact World.block_lt_of_cell? w _ (unhide Hs)
  have h0g : 0 < g := by rw [hgg]; exact World.block_lt_of_cell? w _ (unhide Hg)
  have hrg : ∀ j, j < n → 0 ≤ P j ∧ P j ≤ 255 := fun j hj => ((unhide Hc) j hj).2
  obtain ⟨K, hK4, hKd, hKb⟩ := first_bad P off n
  have HKd := hide hKd
  have Hrg := hide hrg
  have post : ∀ W2 : World, W2.heap[g]? = some (.cells (seg P 0 n).toArray 5 (0, 0)) → Below g w W2 → Hid (∀ m, Calls Ybaf.prog 7 #[.slice (some ⟨g, 0, none⟩) n n, .slice (some ad) n cap] (W2.drewN m) fun e w' => e = .returned (.bool true) ∧ w' = W2.drewN m) := by
    intro W2 h1 h2
    refine hide fun m => equal_walk _ _ n n cap ((List.range n).map P) _ (by simp) ?_ ?_
    · refine fun _ => ⟨g, 0, rfl, fun i hi => ?_⟩
      rw [Nat.zero_add]
      refine (seg_cell (w := W2) h1 i hi).trans ?_
      simp [List.getD, hi]
    · refine Lib.BytesIn.of_cells fun i hi => ?_
      have hc1 := hsrc1 i hi
      refine ((h2.cell (by rw [hgg]; exact World.block_lt_of_cell? w _ hc1)).trans hc1).trans ?_
      simp [List.getD, hi]
  have Hgg := hide hgg
  have Hsrc1 := hide hsrc1
  clear hW1 hwc hbc hcur hcl hsrc hbm hKd hrg hgg hD hsrc1 hoff
  by_cases hK : K = 4
  · subst hK
    refine (read_ok D g 0 n n off tl29 P W1 (by omega) hD1 (by omega) (by have := ((unhide HKd) 3 (by omega)).1; omega) (fun j hj => ⟨by rw [Nat.zero_add]; exact seg_cell hrow1 j hj, (unhide Hrg) j hj⟩) (fun j hj => ((unhide HKd) j hj).2)).mono ?_
    rintro e W2 ⟨rfl, hdec⟩
    have hrow2 := (hdec.rest g (by omega)).trans hrow1
    have hb2 : Below g w W2 := hb1.trans (hdec.below (by omega))
    have Heq := post W2 hrow2 hb2
    have hd2 := hdec.facts.2.1
    have Hrow2 := hide hrow2
    have Hb2 := hide hb2
    clear hdec hrow2 hb2 post hrow1 hb1 hD1
    go_wp2_with fail
    go_loopw [10, 11, 12, 13] (fun wv pv okv iv wr => ∃ k : Nat, k ≤ 4 ∧ wv = .int .i32 (acc P off k) ∧ pv = .int .i64 (off + k : Nat) ∧ okv = .bool true ∧ iv = .int .i64 k ∧ ∃ m, wr = W2.drewN m) (fun _ _ _ iv _ => 4 - (intOf iv).toNat)
    case atStart => exact ⟨0, by omega, rfl, rfl, rfl, rfl, 0, rfl⟩
    case round =>
      obtain ⟨k, hk, rfl, rfl, rfl, rfl, m, rfl⟩ := hrel
      by_cases hlt : k < 4
      · obtain ⟨hin, hdig⟩ := (unhide HKd) k hlt
        obtain ⟨hp0, hp1⟩ := (unhide Hrg) (off + k) hin
        have Hhex := fun W => hide (hex_walk (P (off + k)) W hp0 hp1)
        have hcell : (W2.drewN m).cell? ⟨g, off + k, none⟩ = some (.int .u8 (P (off + k))) := seg_cell (w := W2) (unhide Hrow2) (off + k) hin
        have hR := acc_le (Z := P) (off := off) (k := k) (fun j hj => ((unhide HKd) j (by omega)).2) hk
        have Hacc : Hid (acc P off (k + 1) = acc P off k * 16 + hexV (P (off + k))) := hide rfl
        have hvle := hexV_le (P (off + k))
        generalize hzz : P (off + k) = z at Hhex hcell hdig Hacc hvle hp0 hp1
        generalize hvv : hexV z = v at Hhex hdig Hacc hvle
        generalize hRR : acc P off k = R at hR Hacc ⊢
        clear hzz hvv hRR
        obtain ⟨hR0, hR1⟩ := hR
        go_wp2_with (go_at_call 6; refine (unhide (Hhex _)).mono ?_; rintro e w1 ⟨rfl, rfl⟩)
        exact ⟨⟨k + 1, by omega, by rw [unhide Hacc], by go_num, rfl, by go_num, m, rfl⟩, by simp [intOf]; omega⟩
      · obtain rfl : k = 4 := by omega
        go_wp2_with (go_at_call 7; refine ((unhide Heq) _).mono ?_; rintro e w1 ⟨rfl, rfl⟩)
        go_ret
        refine ⟨rfl, ?_⟩
        have hb := unhide Hb2
        rw [unhide Hgg] at hb
        exact ⟨hb.os, hb.tape, hb.output, hb.size, hb.block⟩
  · have hK' : K < 4 := by omega
    have hKs := hKb hK'
    -- what is peeked at the k-th place
    obtain ⟨Y, hYd⟩ : ∃ Y : Nat → Int, Y = fun k => if off + k < n then P (off + k) else 0 := ⟨_, rfl⟩
    have hY1 : ∀ k, off + k < n → Y k = P (off + k) := fun k h => by rw [hYd]; simp [h]
    have hY2 : ∀ k, n ≤ off + k → Y k = 0 := fun k h => by rw [hYd]; simp [show ¬ off + k < n by omega]
    refine (read_bad F D off K (.slice (some ⟨g, 0, none⟩) n n) tl29 Y a s W1 (by rw [hb1.tape]; exact unhide HF) hD1 (by omega) ((hb1.cell (p := ⟨0, 0, none⟩) h0g).trans (unhide Hg)) (by omega) ((hb1.cell hag).trans (unhide Hs)) hK' (by omega) ?_ ?_ ?_ ?_).mono ?_
    · intro k hk wr hdec
      obtain ⟨d0', d1', _⟩ := hdec.facts
      by_cases hin : off + k < n
      · rw [hY1 k hin]
        refine peek_in D g 0 n n (off + k) (P (off + k)) wr d0' d1' hin (by omega) ?_
        rw [Nat.zero_add]
        exact seg_cell ((hdec.rest g (by omega)).trans hrow1) _ hin
      · rw [hY2 k (by omega)]
        exact peek_end D n n (off + k) _ wr d0' d1' (by omega) (by omega)
    · intro k hk
      by_cases hin : off + k < n
      · rw [hY1 k hin]; exact (unhide Hrg) _ hin
      · rw [hY2 k (by omega)]; omega
    · intro j hj
      obtain ⟨h1, h2⟩ := (unhide HKd) j hj
      rw [hY1 j h1]
      exact h2
    · rcases hKs with h | ⟨h, h'⟩
      · rw [hY2 K h]; decide
      · rw [hY1 K h]; exact h'
    rintro e W2 ⟨w1, pb, hdec, hbel, hpbs, rfl, hpb⟩
    have hDlt : D < w1.heap.size := by
      rcases Nat.lt_or_ge D w1.heap.size with h | h
      · exact h
      · have := hdec.blk
        rw [Array.getElem?_eq_none h] at this
        cases this
    have hrow2 := (hbel.block g (by omega)).trans ((hdec.rest g (by omega)).trans hrow1)
    have hb2 : Below g w W2 := (hb1.trans (hdec.below (by omega))).trans (hbel.mono (by omega))
    have Heq := post W2 hrow2 hb2
    have hd2 := (hbel.cell (p := ⟨D, 1, none⟩) hDlt).trans hdec.facts.2.1
    have hg2 := (hb2.cell (p := ⟨0, 0, none⟩) h0g).trans (unhide Hg)
    have Hwrap := fun m => hide (is_wrap_same pb 0 a (W2.drewN m) hpb)
    have Hrow2 := hide hrow2
    have Hb2 := hide hb2
    have HKs := hide hKs
    clear hdec hrow2 hb2 post hrow1 hb1 hD1 hbel hpb hYd hY1 hY2 hKb hKs
    go_wp2_with fail
    go_loopw [10, 11, 12, 13] (fun wv pv okv iv wr => ∃ k : Nat, k ≤ K ∧ wv = .int .i32 (acc P off k) ∧ pv = .int .i64 (off + k : Nat) ∧ okv = .bool true ∧ iv = .int .i64 k ∧ ∃ m, wr = W2.drewN m) (fun _ _ _ iv _ => 4 - (intOf iv).toNat)
    case atStart => exact ⟨0, by omega, rfl, rfl, rfl, rfl, 0, rfl⟩
    case round =>
      obtain ⟨k, hk, rfl, rfl, rfl, rfl, m, rfl⟩ := hrel
      by_cases hlt : k < K
      · obtain ⟨hin, hdig⟩ := (unhide HKd) k hlt
        obtain ⟨hp0, hp1⟩ := (unhide Hrg) (off + k) hin
        have Hhex := fun W => hide (hex_walk (P (off + k)) W hp0 hp1)
        have hcell : (W2.drewN m).cell? ⟨g, off + k, none⟩ = some (.int .u8 (P (off + k))) := seg_cell (w := W2) (unhide Hrow2) (off + k) hin
        have hR := acc_le (Z := P) (off := off) (k := k) (fun j hj => ((unhide HKd) j (by omega)).2) (by omega)
        have Hacc : Hid (acc P off (k + 1) = acc P off k * 16 + hexV (P (off + k))) := hide rfl
        have hvle := hexV_le (P (off + k))
        generalize hzz : P (off + k) = z at Hhex hcell hdig Hacc hvle hp0 hp1
        generalize hvv : hexV z = v at Hhex hdig Hacc hvle
        generalize hRR : acc P off k = R at hR Hacc ⊢
        clear hzz hvv hRR
        obtain ⟨hR0, hR1⟩ := hR
        go_wp2_with (go_at_call 6; refine (unhide (Hhex _)).mono ?_; rintro e w1 ⟨rfl, rfl⟩)
        exact ⟨⟨k + 1, by omega, by rw [unhide Hacc], by go_num, rfl, by go_num, m, rfl⟩, by simp [intOf]; omega⟩
      · obtain rfl : k = K := by omega
        have hd3 : (W2.drewN m).cell? ⟨D, 1, none⟩ = some (.int .i64 ↑(off + k)) := hd2
        have hg3 : (W2.drewN m).cell? ⟨0, 0, none⟩ = some (.iface 62 (.pointer (some a))) := hg2
        have fin : Below w.heap.size w (W2.drewN m) := by
          have hb := unhide Hb2
          rw [unhide Hgg] at hb
          exact ⟨hb.os, hb.tape, hb.output, hb.size, hb.block⟩
        rcases unhide HKs with hend | ⟨hin, hbd⟩
        · go_wp2_with (first | (go_at_call 7; refine ((unhide Heq) _).mono ?_; rintro e w1 ⟨rfl, rfl⟩) | (go_at_call 8; refine (unhide (Hwrap _)).mono ?_; rintro e w1 ⟨rfl, rfl⟩))
          go_ret
          exact ⟨rfl, fin⟩
        · obtain ⟨hp0, hp1⟩ := (unhide Hrg) (off + k) hin
          have Hhex := fun W => hide (hex_walk (P (off + k)) W hp0 hp1)
          have hcell : (W2.drewN m).cell? ⟨g, off + k, none⟩ = some (.int .u8 (P (off + k))) := seg_cell (w := W2) (unhide Hrow2) (off + k) hin
          generalize hzz : P (off + k) = z at Hhex hcell hbd hp0 hp1
          generalize hvv : hexV z = v at Hhex hbd
          clear hzz hvv
          go_wp2_with (first | (go_at_call 6; refine (unhide (Hhex _)).mono ?_; rintro e w1 ⟨rfl, rfl⟩) | (go_at_call 7; refine ((unhide Heq) _).mono ?_; rintro e w1 ⟨rfl, rfl⟩) | (go_at_call 8; refine (unhide (Hwrap _)).mono ?_; rintro e w1 ⟨rfl, rfl⟩))
          go_ret
          exact ⟨rfl, fin⟩

set_option maxRecDepth 100000 in
set_option maxHeartbeats 4000000 in
theorem model_nil (F : Interp) (x : Int) (a : Addr) (s : ByteArray) (w : World) (hx0 : 0 ≤ x) (hx1 : x ≤ 255)
    (hF : F.answers w.tape) (hg : w.cell? ⟨0, 0, none⟩ = some (.iface 62 (.pointer (some a)))) (hs : w.cell? a = some (.string s)) :
    Calls Ybaf.prog 3 #[.slice none 0 0, .int .u8 x] w fun e w' => e = .returned (.bool true) ∧ Below w.heap.size w w' := by
  have HF := hide hF
  have Hg := hide hg
  have Hs := hide hs
  clear hF hg hs
  go_enter Ybaf.func3, Ybaf.ntmps3
  go_wp2_with (refine wpList_build_is rfl 29 _ rfl [(0,.slice none 0 0), (1,.int .i64 0)] rfl _ (built29 _ _ _ _) ?_)
  have hD1 := heap_alloc_new w (.cells (#[Value.slice none 0 0, .int .i64 (0 : Nat)] ++ tl29) 29)
  have hb1 : Below w.heap.size w (w.alloc (.cells (#[Value.slice none 0 0, .int .i64 (0 : Nat)] ++ tl29) 29)) := (Below.refl _ w).alloc (Nat.le_refl _) _
  have hag : a.block < w.heap.size := World.block_lt_of_cell? w _ (unhide Hs)
  have h0g : 0 < w.heap.size := World.block_lt_of_cell? w _ (unhide Hg)
  refine (read_bad F w.heap.size 0 0 (.slice none 0 0) tl29 (fun _ => 0) a s _ (by rw [hb1.tape]; exact unhide HF) hD1 (by omega) ((hb1.cell (p := ⟨0, 0, none⟩) h0g).trans (unhide Hg)) (by omega) ((hb1.cell hag).trans (unhide Hs)) (by omega) (by omega) ?_ (fun _ _ => by omega) (fun j hj => by omega) (by decide)).mono ?_
  · intro k hk wr hdec
    obtain ⟨d0', d1', _⟩ := hdec.facts
    exact peek_end w.heap.size 0 0 (0 + k) _ wr d0' d1' (by omega) (by omega)
  rintro e W2 ⟨w1, pb, hdec, hbel, hpbs, rfl, hpb⟩
  have hDlt : w.heap.size < w1.heap.size := by
    rcases Nat.lt_or_ge w.heap.size w1.heap.size with h | h
    · exact h
    · have := hdec.blk
      rw [Array.getElem?_eq_none h] at this
      cases this
  have hb2 : Below w.heap.size w W2 := (hb1.trans (hdec.below (Nat.le_refl _))).trans (hbel.mono (by omega))
  have Heq : Hid (∀ W, Calls Ybaf.prog 7 #[.slice none 0 0, .slice none 0 0] W fun e w' => e = .returned (.bool true) ∧ w' = W) := hide fun W => equal_walk none none 0 0 0 [] W rfl (Lib.BytesIn.nil _ _ _) (Lib.BytesIn.nil _ _ _)
  have hd2 : W2.cell? ⟨w.heap.size, 1, none⟩ = some (.int .i64 0) := (hbel.cell (p := ⟨w.heap.size, 1, none⟩) hDlt).trans hdec.facts.2.1
  have hg2 := (hb2.cell (p := ⟨0, 0, none⟩) h0g).trans (unhide Hg)
  have Hwrap := hide (is_wrap_same pb 0 a W2 hpb)
  have Hb2 := hide hb2
  clear hdec hb2 hb1 hD1 hbel hpb
  go_wp2_with fail
  refine wp_loop_rounds 1 ?_
  rw [rounds_succ]
  go_wp2_with (first | (go_at_call 7; refine ((unhide Heq) _).mono ?_; rintro e w1 ⟨rfl, rfl⟩) | (go_at_call 8; refine (unhide Hwrap).mono ?_; rintro e w1 ⟨rfl, rfl⟩))
  go_ret
  exact ⟨rfl, unhide Hb2⟩

end Go.Proofs.YbulkbsmiFmt
