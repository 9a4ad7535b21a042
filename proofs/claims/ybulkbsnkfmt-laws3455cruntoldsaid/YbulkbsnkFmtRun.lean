/-
  Seat b3455aF: Run (5).
-/
import Derived.Test.YbulkbsnkFmtInp
import Derived.Deep.OwnRows
import Derived.BigRegion
import Derived.Deep.RegionWith
import Derived.Deep.RegionHeld3
import Derived.Deep.DeepCutAuto
import Derived.Deep.LoopGhost
namespace Go.Proofs.YbulkbsnkFmt
open Go.RowKit
set_option linter.unusedVariables false
set_option linter.unusedSimpArgs false

theorem own_cell {w : World} {b : Nat} {e : TypeId} {g n c : Nat} {xs : List Value} (h : w.ownsRow b e 1 (.slice (some ⟨g, 0, none⟩) n c) n xs) {i : Nat} (hi : i < n) : w.cell? ⟨g, i, none⟩ = xs[i]? := by
  rcases h.2 with ⟨e, -⟩ | ⟨g', cap, cur, e, hb, hg, hn, hm, hs, ht⟩
  · cases e
  · cases e
    rw [← ht, List.getElem?_take_of_lt (by omega)]
    simp only [World.cell?, hg]
    simp

set_option maxRecDepth 100000 in
set_option maxHeartbeats 4000000 in
theorem run_walk (b0 n len pcap : Nat) (pa : Option Addr) (P : Nat → Int) (rel : Nat → Bool) (X : Nat → Nat) (ST NB RB RV BV SA : Nat) (sv : Value) (S : Nat → Int) (stop : Int) (B : Nat → Int) (ncap rcap : Nat) (hor : Int) (w : World)
    (hI : Inp w b0 n len pcap pa P rel X ST NB RB RV BV SA sv S stop B) (hB : ∀ i, B i = bitsSum len P rel n (i + 1) n) (hh0 : -9223372036854775808 ≤ hor) (hh1 : hor ≤ 300) (K : Nat) (hK : K = wantN hor stop) :
    Calls Ybaf.prog 5 #[.slice (some ⟨NB, 0, none⟩) n ncap, .slice (some ⟨RB, 0, none⟩) n rcap, sv, .int .i64 hor, .func (Fn.func 4) #[] #[.pointer (some ⟨RV, 0, none⟩), .pointer (some ⟨BV, 0, none⟩), .pointer (some ⟨SA, 0, none⟩)]] w fun e w' =>
      e = .returned (.agg #[.int .i64 K, .int .i64 (sumB B K)]) ∧ Fr (Pp n RV BV X) w w' ∧ (∀ i, i < n → w'.heap[X i]? = some (.cells #[.pointer (some ⟨ST, 0, none⟩), .int .i64 i, .int .i64 K] 34 (0, 0))) ∧ ∃ v1 v2, Told w' RV BV SA w.heap.size K stop B v1 v2 := by
  have hn := hI.hn
  have HI := hide hI
  have HB := hide hB
  have HK := hide hK
  clear hI hB hK
  have hmk := fun W => run_make_row' (P := Ybaf.prog) 44 46 (.slice none 0 0) 24 Ybaf.underlying44 info44 rfl .i64 .i64 n (by omega) (by omega) W
  have hmk2 := fun W => run_make_row' (P := Ybaf.prog) 46 47 (.slice none 0 0) 24 Ybaf.underlying46 info47 rfl .i64 .i64 n (by omega) (by omega) W
  have hbuilt := built45
  go_enter Ybaf.func5, Ybaf.ntmps5
  go_upto_region 2 with fail
  go_cut [12] (fun rw wx => ∃ RW A0 A1, rw = .pointer (some ⟨RW, 0, none⟩) ∧ wx.heap[RW]? = some (.cells #[.slice (some ⟨A0, 0, none⟩) n n, .slice (some ⟨A1, 0, none⟩) n n] 45 (0, 0)) ∧ wx.heap[A0]? = some (.cells (madeCells #[.slice none 0 0] n) 46 (0, 0)) ∧ wx.heap[A1]? = some (.cells (madeCells #[.slice none 0 0] n) 46 (0, 0)) ∧ A0 ≠ A1 ∧ w.heap.size < A0 ∧ w.heap.size < A1 ∧ wx.heap[w.heap.size]? = some (.cells #[.int .i64 0, .int .i64 0] 40 (0, 0)) ∧ Below w.heap.size w wx)
  case first =>
    go_region
    all_goals (try go_wp2_with fail)
    all_goals
      go_meet
      have h4 := heap4 w
      first
        | exact ⟨_, _, _, rfl, (h4 _ _ _ _).2.1, (h4 _ _ _ _).2.2.1, (h4 _ _ _ _).2.2.2.1, by omega, by omega, by omega, (h4 _ _ _ _).1, (h4 _ _ _ _).2.2.2.2⟩
        | exact ⟨_, _, _, rfl, (h4 _ _ _ _).2.1, (h4 _ _ _ _).2.2.2.1, (h4 _ _ _ _).2.2.1, by omega, by omega, by omega, (h4 _ _ _ _).1, (h4 _ _ _ _).2.2.2.2⟩
        | exact ⟨_, _, _, rfl, (h4 _ _ _ _).2.2.1, (h4 _ _ _ _).2.1, (h4 _ _ _ _).2.2.2.1, by omega, by omega, by omega, (h4 _ _ _ _).1, (h4 _ _ _ _).2.2.2.2⟩
        | exact ⟨_, _, _, rfl, (h4 _ _ _ _).2.2.1, (h4 _ _ _ _).2.2.2.1, (h4 _ _ _ _).2.1, by omega, by omega, by omega, (h4 _ _ _ _).1, (h4 _ _ _ _).2.2.2.2⟩
        | exact ⟨_, _, _, rfl, (h4 _ _ _ _).2.2.2.1, (h4 _ _ _ _).2.2.1, (h4 _ _ _ _).2.1, by omega, by omega, by omega, (h4 _ _ _ _).1, (h4 _ _ _ _).2.2.2.2⟩
        | exact ⟨_, _, _, rfl, (h4 _ _ _ _).2.2.2.1, (h4 _ _ _ _).2.1, (h4 _ _ _ _).2.2.1, by omega, by omega, by omega, (h4 _ _ _ _).1, (h4 _ _ _ _).2.2.2.2⟩
  case rest =>
    obtain ⟨RW, A0, A1, rfl, c1, c2, c3, c4, c5, c6, c7, c8⟩ := hcut
    have Hcut := hide (And.intro c1 (And.intro c2 (And.intro c3 (And.intro c4 (And.intro c5 (And.intro c6 (And.intro c7 c8)))))))
    clear c1 c2 c3 c4 c5 c6 c7 c8 hmk
    go_wp2_with fail
    obtain ⟨c1, c2, c3, c4, c5, c6, c7, c8⟩ := unhide Hcut
    obtain ⟨d1, d2, d3⟩ := heap2 wc (.cells (madeCells #[.slice none 0 0] n) 47) (.cells #[.int .i64 0, .int .i64 0] 40)
    have hbz := c8.size
    have keep : ∀ {x : Nat} {o : Obj}, wc.heap[x]? = some o → ((wc.alloc (.cells (madeCells #[.slice none 0 0] n) 47)).alloc (.cells #[.int .i64 0, .int .i64 0] 40)).heap[x]? = some o := fun h => ((d3 _ (Nat.le_refl _)).block _ (block_lt h)).trans h
    have D0 := (unhide HI).init (RS := wc.heap.size + 1) (c8.trans (d3 _ hbz)) (keep c7) d2 (by omega) d1 hbz (keep c1) (keep c2) (keep c3) c4 c5 c6
    obtain ⟨W0, hW0⟩ : ∃ W0, W0 = (wc.alloc (.cells (madeCells #[.slice none 0 0] n) 47)).alloc (.cells #[.int .i64 0, .int .i64 0] 40) := ⟨_, rfl⟩
    obtain ⟨A, hA⟩ : ∃ A : Nat → Nat, A = fun p => if p = 0 then A0 else A1 := ⟨_, rfl⟩
    rw [← hW0, ← hA] at D0
    rw [← hW0]
    obtain ⟨RC, hRC⟩ : ∃ RC, RC = wc.heap.size := ⟨_, rfl⟩
    rw [← hRC] at D0 ⊢
    obtain ⟨RS, hRS⟩ : ∃ RS, RS = RC + 1 := ⟨_, rfl⟩
    rw [← hRS] at D0 ⊢
    have HD0 := hide D0
    clear D0 c1 c2 c3 c4 c5 c6 c7 c8 d1 d2 d3 hbz keep hW0 hA hRC hRS Hcut hmk2 hbuilt A0 A1
    go_loopg [] (hor.toNat) (fun gk wr => ∃ k R, k + gk = hor.toNat ∧ ¬ (1 ≤ stop ∧ stop ≤ (k : Int)) ∧ Dyn w n ST RV BV SA RS RC RW RS X A stop B wr k k (sumB B k) (fun _ => k) R ∧ ∀ j, j < n → RowIs wr RS n len P (R (k % 2) j) j k)
    case atStart => exact ⟨0, _, by omega, by omega, unhide HD0, fun j hj => .inr ⟨.inl rfl, none, 0, rfl, rfl, .inl ⟨rfl, rfl⟩⟩⟩
    case round =>
      obtain ⟨k, R, hkg, hns, hd, hrow⟩ := hrel
      have rs0 : wr.cell? ⟨RS, 0, none⟩ = some (.int .i64 k) := by simp [World.cell?, hd.rs]
      have rs1 : wr.frozen? ⟨RS, 0, none⟩ = false := by simp [World.frozen?, hd.rs]
      by_cases hlt : (k : Int) < hor
      · have hk300 : k + 1 ≤ 300 := by omega
        -- the world behind res.Rounds++
        obtain ⟨W1, hW1⟩ : ∃ W1, W1 = wr.setCell ⟨RS, 0, none⟩ (.int .i64 ((k : Int) + 1)) := ⟨_, rfl⟩
        have hs1 : W1.heap[RS]? = some (.cells #[.int .i64 ((k : Int) + 1), .int .i64 (sumB B k)] 40 (0, 0)) := by rw [hW1, heap_setCell_same wr RS 0 _ 40 _ hd.rs]; rfl
        have hf1 : Fr (fun x => x = RS) wr W1 := by rw [hW1]; exact Fr.set rfl
        obtain ⟨hd1, hr1⟩ := hd.setRS hf1 hs1
        have hrow1 := fun j hj => hr1 len P (k % 2) j k (Nat.mod_lt _ (by omega)) hj (hrow j hj)
        have HD1 := hide hd1
        have Hrow1 := hide hrow1
        have HD := hide hd
        clear hd1 hrow1 hr1 hf1 hs1 hrow hd
        go_upto_region 7 with fail
        rw [← hW1]
        obtain ⟨p, hp⟩ : ∃ p, p = k % 2 := ⟨_, rfl⟩
        obtain ⟨q, hq⟩ : ∃ q, q = (k + 1) % 2 := ⟨_, rfl⟩
        rw [← hp] at Hrow1
        have hp2 : p < 2 := by omega
        have hq2 : q < 2 := by omega
        have hpq : p ≠ q := by omega
        have hpi : (k : Int) % 2 = (p : Int) := by omega
        have hpj : ((k : Int) + 1 - 1) % 2 = (p : Int) := by omega
        have hqi : ((k : Int) + 1) % 2 = (q : Int) := by omega
        have e0 : W1.cell? ⟨RS, 0, none⟩ = some (.int .i64 ((k : Int) + 1)) := by simp [World.cell?, (unhide HD1).rs]
        have erw : ∀ x, x < 2 → W1.cell? ⟨RW, x, none⟩ = some (.slice (some ⟨A x, 0, none⟩) n n) := fun x hx => by
          have : x = 0 ∨ x = 1 := by omega
          rcases this with rfl | rfl <;> simp [World.cell?, (unhide HD1).rw]
        have e1 := erw p hp2
        have e2 := erw q hq2
        have Hp := hide hp
        have Hq := hide hq
        have Hpq := hide hpq
        have Hns := hide hns
        clear erw rs0 rs1 hW1 hp hq hpq hns HD
        go_quiet (fail)
        go_wp2_with fail
        clear e0 e1 e2 hpi hpj hqi
        have HD2 : Hid (Dyn w n ST RV BV SA RS RC RW RS X A stop B (W1.drewN nq) k ((k : Int) + 1) (sumB B k) (fun _ => k) R ∧ ∀ len P p j k, p < 2 → j < n → RowIs W1 RS n len P (R p j) j k → RowIs (W1.drewN nq) RS n len P (R p j) j k) := hide ((unhide HD1).setRS ⟨rfl, rfl, rfl, Nat.le_refl _, fun _ _ _ => rfl⟩ (unhide HD1).rs)
        go_loopg [53, 17] (n) (fun gk iv bv wr => ∃ i R', i + gk = n ∧ iv = .int .i64 i ∧ bv = .int .i64 (bitsSum len P rel n (k + 1) i) ∧ Dyn w n ST RV BV SA RS RC RW RS X A stop B wr k ((k : Int) + 1) (sumB B k) (fun t => if t < i then k + 1 else k) R' ∧ (∀ j, j < n → RowIs wr RS n len P (R' p j) j k) ∧ ∀ j, j < i → RowIs wr RS n len P (R' q j) j (k + 1))
        case atStart =>
          refine ⟨0, R, by omega, rfl, rfl, ?_, fun j hj => (unhide HD2).2 len P p j k hp2 hj ((unhide Hrow1) j hj), fun j hj => absurd hj (by omega)⟩
          have h := (unhide HD2).1
          rwa [show (fun _ => k : Nat → Nat) = (fun t => if t < 0 then k + 1 else k) from funext fun t => (if_neg (by omega)).symm] at h
        case round =>
          clear HD2 HD1 Hrow1
          obtain ⟨i, R', hig, rfl, rfl, hd, hrp, hrq⟩ := hrel
          have hbs := bitsSum_bd len P rel n (k + 1) i
          by_cases hin : i < n
          · have hnode := (unhide HI).node hd.fr hin
            have HDi := hide hd
            have Hrp := hide hrp
            have Hrq := hide hrq
            clear hd hrp hrq
            go_wp2_with fail
            go_loopg [60] (n) (fun gj jv wr => ∃ j, j + gj = n ∧ jv = .int .i64 j ∧ Dyn w n ST RV BV SA RS RC RW RS X A stop B wr k ((k : Int) + 1) (sumB B k) (fun t => if t < i then k + 1 else k) R' ∧ (∀ j, j < n → RowIs wr RS n len P (R' p j) j k) ∧ (∀ j, j < i → RowIs wr RS n len P (R' q j) j (k + 1)) ∧ ∀ t, t < j → ∃ v, wr.cell? ⟨RC, t, none⟩ = some v ∧ IsMsg wr v (gotO len P t (k + 1) i) k i)
            case atStart => exact ⟨0, by omega, rfl, unhide HDi, unhide Hrp, unhide Hrq, fun t ht => absurd ht (by omega)⟩
            case round =>
              clear hnode HDi Hrp Hrq
              obtain ⟨j, hjg, rfl, hd, hrp, hrq, hms⟩ := hrel
              by_cases hjn : j < n
              · obtain ⟨C, hC, hCs, hCr⟩ := hd.ar p hp2
                have arow : wr.cell? ⟨A p, j, none⟩ = some (R' p j) := by simp only [World.cell?, hC]; exact hCr j hjn
                obtain ⟨D, hD, hDs⟩ := hd.rc
                have rcf : ∀ {W : World} {D : Array Value}, W.heap[RC]? = some (.cells D 47 (0, 0)) → D.size = n → (∃ z, W.cell? ⟨RC, j, none⟩ = some z) ∧ W.frozen? ⟨RC, j, none⟩ = false := fun h hs => ⟨⟨_, by simp only [World.cell?, h]; exact Array.getElem?_eq_getElem (by omega)⟩, by simp [World.frozen?, h]⟩
                obtain ⟨⟨z, hz⟩, hzf⟩ := rcf hD hDs
                obtain ⟨hda, hra, hma, hca, hna⟩ := hd.setRC j (.slice none 0 0)
                obtain ⟨Wa, hWa⟩ : ∃ Wa, Wa = wr.setCell ⟨RC, j, none⟩ (.slice none 0 0) := ⟨_, rfl⟩
                rw [← hWa] at hda hra hma hca hna
                have hgot : gotO len P j (k + 1) i = if k = 0 then none else msgO len P j k i := by
                  rw [gotO]
                  by_cases h : k = 0
                  · rw [if_pos (by omega), if_pos h]
                  · rw [if_neg (by omega), if_neg h]; rfl
                rcases hrp j hjn with ⟨h0, h1, g, c, xs, h2, h3, h4⟩ | ⟨h0, a, c, h1, h2⟩
                · obtain ⟨u, hu, hum⟩ := h4 i hin
                  have hgc : wr.cell? ⟨g, i, none⟩ = some u := by
                    rw [h2] at h3
                    rw [own_cell h3 hin]
                    exact hu
                  have hgR := (hd.own47 hp2 hjn (by rw [h2]; rfl : (R' p j).ownBlock = some g)).2.1
                  have hgc' : Wa.cell? ⟨g, i, none⟩ = some u := (World.cell?_of_block (a := ⟨g, i, none⟩) (by rw [hWa]; exact Below.heap_setCell _ _ _ _ hgR)).trans hgc
                  obtain ⟨D2, hD2, hDs2⟩ := hda.rc
                  obtain ⟨⟨z2, hz2⟩, hzf2⟩ := rcf hD2 hDs2
                  obtain ⟨hdb, hrb, hmb, hcb, hnb⟩ := hda.setRC j u
                  have Hend : Hid (Dyn w n ST RV BV SA RS RC RW RS X A stop B (Wa.setCell ⟨RC, j, none⟩ u) k ((k : Int) + 1) (sumB B k) (fun t => if t < i then k + 1 else k) R' ∧ (∀ x, x < n → RowIs (Wa.setCell ⟨RC, j, none⟩ u) RS n len P (R' p x) x k) ∧ (∀ x, x < i → RowIs (Wa.setCell ⟨RC, j, none⟩ u) RS n len P (R' q x) x (k + 1)) ∧ ∀ t, t < j + 1 → ∃ v, (Wa.setCell ⟨RC, j, none⟩ u).cell? ⟨RC, t, none⟩ = some v ∧ IsMsg (Wa.setCell ⟨RC, j, none⟩ u) v (gotO len P t (k + 1) i) k i) := hide (by
                    refine ⟨hdb, fun t ht => hrb len P p t k hp2 ht (hra len P p t k hp2 ht (hrp t ht)), fun t ht => hrb len P q t (k + 1) hq2 (by omega) (hra len P q t (k + 1) hq2 (by omega) (hrq t ht)), fun t ht => ?_⟩
                    by_cases e : t = j
                    · subst e
                      refine ⟨_, hcb hjn, hmb _ _ _ _ (hma _ _ _ _ ?_)⟩
                      rw [hgot, if_neg h0]
                      exact hum
                    · obtain ⟨v, hv1, hv2⟩ := hms t (by omega)
                      exact ⟨v, (hnb t e).trans ((hna t e).trans hv1), hmb _ _ _ _ (hma _ _ _ _ hv2)⟩)
                  rw [h2] at arow
                  have hn0 : ((n : Int) != 0) = true := by simp; omega
                  obtain ⟨ua, ul, uc, rfl⟩ := msg_form hum
                  clear hda hra hma hca hna hdb hrb hmb hcb hnb hgot h0 h1 h2 h3 h4 hu hum hgc hrp hrq hms hd hC hCs hCr hD hDs hD2 hDs2 rcf
                  go_upto_region 16 with fail
                  rw [← hWa]
                  clear hWa
                  go_wp2_with fail
                  go_roundg (gk - 1)
                  case measure => omega
                  case rel => exact ⟨j + 1, by omega, by go_num, unhide Hend⟩
                · have hmsg : IsMsg Wa (.slice none 0 0) (gotO len P j (k + 1) i) k i := by
                    rw [hgot]
                    rcases h0 with h0 | h0
                    · rw [if_pos h0]; rfl
                    · rw [show msgO len P j k i = none by rw [msgO, h0]; rfl, ite_self]; rfl
                  have Hend : Hid (Dyn w n ST RV BV SA RS RC RW RS X A stop B Wa k ((k : Int) + 1) (sumB B k) (fun t => if t < i then k + 1 else k) R' ∧ (∀ j, j < n → RowIs Wa RS n len P (R' p j) j k) ∧ (∀ j, j < i → RowIs Wa RS n len P (R' q j) j (k + 1)) ∧ ∀ t, t < j + 1 → ∃ v, Wa.cell? ⟨RC, t, none⟩ = some v ∧ IsMsg Wa v (gotO len P t (k + 1) i) k i) := hide (by
                    refine ⟨hda, fun t ht => hra len P p t k hp2 ht (hrp t ht), fun t ht => hra len P q t (k + 1) hq2 (by omega) (hrq t ht), fun t ht => ?_⟩
                    by_cases e : t = j
                    · subst e
                      exact ⟨_, hca hjn, hmsg⟩
                    · obtain ⟨v, hv1, hv2⟩ := hms t (by omega)
                      exact ⟨v, (hna t e).trans hv1, hma _ _ _ _ hv2⟩)
                  rw [h1] at arow
                  clear hda hra hma hca hna hgot hmsg h0 h1 h2 hrp hrq hms hd hC hCs hCr hD hDs rcf
                  go_wp2_with fail
                  rw [← hWa]
                  go_roundg (gk - 1)
                  case measure => omega
                  case rel => exact ⟨j + 1, by omega, by go_num, unhide Hend⟩
              · have hst := (unhide HI).start hd.fr hin
                obtain ⟨C, hC, hCs, hCr⟩ := hd.ar q hq2
                have arow : wr.cell? ⟨A q, i, none⟩ = some (R' q i) := by simp only [World.cell?, hC]; exact hCr i hin
                have e0 : wr.cell? ⟨RS, 0, none⟩ = some (.int .i64 ((k : Int) + 1)) := by simp [World.cell?, hd.rs]
                obtain ⟨l, xs, hown⟩ := hd.ro q i hq2 hin
                have Hown := hide (own_cut hown)
                have hgot : ∀ t, t < n → ∃ v, wr.cell? ⟨RC, t, none⟩ = some v ∧ IsMsg wr v (gotO len P t (k + 1) i) k i := fun t ht => hms t (by omega)
                have Hcall : Hid (∀ sf, StartF wr sv n i (k + 1) sf → ∀ oa l oc, R' q i = .slice oa l oc → wr.ownsRow RS 47 1 (.slice oa 0 oc) 0 [] → Calls Ybaf.prog 26 #[.pointer (some ⟨X i, 0, none⟩), .slice oa 0 oc, .slice (some ⟨RC, 0, none⟩) n n, .bool sf] wr.drew fun e w' => ∃ v, e = .returned v ∧ w'.cell? ⟨A q, i, none⟩ = some (.slice oa l oc) ∧ w'.cell? ⟨RS, 0, none⟩ = some (.int .i64 ((k : Int) + 1)) ∧ (∀ SB (cs : Array Value), wr.heap[SB]? = some (.cells cs 3 (0, 0)) → w'.cell? ⟨SB, i, none⟩ = wr.cell? ⟨SB, i, none⟩) ∧ Hid (Fr (fun x => x = X i ∨ (R' q i).ownBlock = some x) wr w' ∧ w'.heap[X i]? = some (.cells #[.pointer (some ⟨ST, 0, none⟩), .int .i64 i, .int .i64 ((k + 1 : Nat) : Int)] 34 (0, 0)) ∧ RowIs w' RS n len P v i (k + 1) ∧ ∀ g, v.ownBlock = some g → (R' q i).ownBlock = some g ∨ wr.heap.size ≤ g)) := hide (fun sf hsf oa l oc hv hO => ((unhide HI).call (i := i) (q := q) (k := k) (oa := oa) (l := l) (oc := oc) hd hin hq2 (by omega) (if_neg (by omega)) hgot hsf hv hO).mono fun e w' ⟨v, h1, h2, h3⟩ => by
                  obtain ⟨k1, k2, k3⟩ := hd.after hin hq2 h2
                  exact ⟨v, h1, by rw [k1, arow, hv], by rw [k2, e0], k3, hide ⟨h2, h3⟩⟩)
                have HDj := hide hd
                have Hrpj := hide hrp
                have Hrqj := hide hrq
                clear hd hrp hrq hms hgot hC hCs hCr hown
                have hmeth := methodStep
                have hnilS := nilStep
                go_upto_region 19 with fail
                go_cut [22] (fun ov wx => Fr (fun x => x = X i ∨ (R' q i).ownBlock = some x) wr wx ∧ wx.heap[X i]? = some (.cells #[.pointer (some ⟨ST, 0, none⟩), .int .i64 i, .int .i64 ((k + 1 : Nat) : Int)] 34 (0, 0)) ∧ RowIs wx RS n len P ov i (k + 1) ∧ ∀ g, ov.ownBlock = some g → (R' q i).ownBlock = some g ∨ wr.heap.size ≤ g)
                case first =>
                  rcases unhide Hown with ⟨hv, hl0, hO⟩ | ⟨g, c, hv, hO, hlc⟩
                  · subst hl0
                    rcases hst with rfl | ⟨SB, sc, rfl, hsc, cs, hscs⟩
                    · have Hc := hide ((unhide Hcall) false (.inl ⟨rfl, rfl⟩) none 0 0 hv hO)
                      rw [hv] at arow
                      clear Hcall hO hv Hown
                      refine wp_region_noPanic ?_
                      refine wp_region_held_drew (S := fun w' => w'.cell? ⟨A q, i, none⟩ = some (.slice none 0 0) ∧ w'.cell? ⟨RS, 0, none⟩ = some (.int .i64 ((k : Int) + 1))) (by kernel_rfl) ⟨arow, e0⟩ (fun hHeld => ?_)
                      refine wpAnyH_take (i := 0) (v := ?_) rfl (by kernel_rfl) (by kernel_rfl) (by kernel_rfl) (fun _ _ _ h => h) (Or.inl ⟨by rfl, ?hy⟩) hHeld ?_
                      case hy => (intro w' hSw; obtain ⟨hw1, hw2⟩ := hSw; go_simp; try with_reducible rfl)
                      simp only [Act.put, List.setIfInBounds_toArray, List.set_cons_zero, List.set_cons_succ, List.getElem_toArray, List.getElem_cons_zero, List.getElem_cons_succ]
                      refine wpAnyH_take (i := 1) (v := ?_) rfl (by kernel_rfl) (by kernel_rfl) (by kernel_rfl) (fun _ _ _ h => h) (Or.inl ⟨by rfl, ?hy⟩) hHeld ?_
                      case hy => (intro w' hSw; obtain ⟨hw1, hw2⟩ := hSw; go_simp; try with_reducible rfl)
                      simp only [Act.put, List.setIfInBounds_toArray, List.set_cons_zero, List.set_cons_succ, List.getElem_toArray, List.getElem_cons_zero, List.getElem_cons_succ]
                      refine wpAnyH_take (i := 2) (v := ?_) rfl (by kernel_rfl) (by kernel_rfl) (by kernel_rfl) (fun _ _ _ h => h) (Or.inl ⟨by rfl, ?hy⟩) hHeld ?_
                      case hy => (intro w' hSw; obtain ⟨hw1, hw2⟩ := hSw; go_simp; try with_reducible rfl)
                      simp only [Act.put, List.setIfInBounds_toArray, List.set_cons_zero, List.set_cons_succ, List.getElem_toArray, List.getElem_cons_zero, List.getElem_cons_succ]
                      refine wpAnyH_take (i := 3) (v := ?_) rfl (by kernel_rfl) (by kernel_rfl) (by kernel_rfl) (fun _ _ _ h => h) (Or.inl ⟨by rfl, ?hy⟩) hHeld ?_
                      case hy => (intro w' hSw; obtain ⟨hw1, hw2⟩ := hSw; go_simp; try with_reducible rfl)
                      simp only [Act.put, List.setIfInBounds_toArray, List.set_cons_zero, List.set_cons_succ, List.getElem_toArray, List.getElem_cons_zero, List.getElem_cons_succ]
                      refine wpAnyH_take (i := 4) (v := ?_) rfl (by kernel_rfl) (by kernel_rfl) (by kernel_rfl) (fun _ _ _ h => h) (Or.inl ⟨by rfl, ?hy⟩) hHeld ?_
                      case hy => (intro w' hSw; obtain ⟨hw1, hw2⟩ := hSw; go_simp; try with_reducible rfl)
                      simp only [Act.put, List.setIfInBounds_toArray, List.set_cons_zero, List.set_cons_succ, List.getElem_toArray, List.getElem_cons_zero, List.getElem_cons_succ]
                      refine wpAnyH_take (i := 5) (v := ?_) rfl (by kernel_rfl) (by kernel_rfl) (by kernel_rfl) (fun _ _ _ h => h) (Or.inl ⟨by rfl, ?hy⟩) hHeld ?_
                      case hy => (intro w' hSw; obtain ⟨hw1, hw2⟩ := hSw; go_simp; try with_reducible rfl)
                      simp only [Act.put, List.setIfInBounds_toArray, List.set_cons_zero, List.set_cons_succ, List.getElem_toArray, List.getElem_cons_zero, List.getElem_cons_succ]
                      refine wpAnyH_take (i := 6) (v := ?_) rfl (by kernel_rfl) (by kernel_rfl) (by kernel_rfl) (fun _ _ _ h => h) (Or.inl ⟨by rfl, ?hy⟩) hHeld ?_
                      case hy => (intro w' hSw; obtain ⟨hw1, hw2⟩ := hSw; go_simp; try with_reducible rfl)
                      simp only [Act.put, List.setIfInBounds_toArray, List.set_cons_zero, List.set_cons_succ, List.getElem_toArray, List.getElem_cons_zero, List.getElem_cons_succ]
                      refine wpAnyH_take (i := 7) (v := ?_) rfl (by kernel_rfl) (by kernel_rfl) (by kernel_rfl) (fun _ _ _ h => h) (Or.inl ⟨by rfl, ?hy⟩) hHeld ?_
                      case hy => (intro w' hSw; obtain ⟨hw1, hw2⟩ := hSw; go_simp; try with_reducible rfl)
                      simp only [Act.put, List.setIfInBounds_toArray, List.set_cons_zero, List.set_cons_succ, List.getElem_toArray, List.getElem_cons_zero, List.getElem_cons_succ]
                      refine wpAnyH_take (i := 8) (v := ?_) rfl (by kernel_rfl) (by kernel_rfl) (by kernel_rfl) (fun _ _ _ h => h) (Or.inl ⟨by rfl, ?hy⟩) hHeld ?_
                      case hy => (intro w' hSw; obtain ⟨hw1, hw2⟩ := hSw; go_simp; try with_reducible rfl)
                      simp only [Act.put, List.setIfInBounds_toArray, List.set_cons_zero, List.set_cons_succ, List.getElem_toArray, List.getElem_cons_zero, List.getElem_cons_succ]
                      refine wpAnyH_take (i := 9) (v := ?_) rfl (by kernel_rfl) (by kernel_rfl) (by kernel_rfl) (fun _ _ _ h => h) (Or.inl ⟨by rfl, ?hy⟩) hHeld ?_
                      case hy => (intro w' hSw; obtain ⟨hw1, hw2⟩ := hSw; go_simp; try with_reducible rfl)
                      simp only [Act.put, List.setIfInBounds_toArray, List.set_cons_zero, List.set_cons_succ, List.getElem_toArray, List.getElem_cons_zero, List.getElem_cons_succ]
                      refine wpAnyH_take (i := 10) (v := undef) rfl (by kernel_rfl) (by kernel_rfl) (by kernel_rfl) (fun _ _ _ h => h) (Or.inr ⟨by rfl, rfl⟩) hHeld ?_
                      simp only [Act.put, List.setIfInBounds_toArray, List.set_cons_zero, List.set_cons_succ, List.getElem_toArray, List.getElem_cons_zero, List.getElem_cons_succ]
                      refine wpAnyH_take (i := 11) (v := undef) rfl (by kernel_rfl) (by kernel_rfl) (by kernel_rfl) (fun _ _ _ h => h) (Or.inr ⟨by rfl, rfl⟩) hHeld ?_
                      simp only [Act.put, List.setIfInBounds_toArray, List.set_cons_zero, List.set_cons_succ, List.getElem_toArray, List.getElem_cons_zero, List.getElem_cons_succ]
                      refine wpAnyH_take (i := 12) (v := undef) rfl (by kernel_rfl) (by kernel_rfl) (by kernel_rfl) (fun _ _ _ h => h) (Or.inr ⟨by rfl, rfl⟩) hHeld ?_
                      simp only [Act.put, List.setIfInBounds_toArray, List.set_cons_zero, List.set_cons_succ, List.getElem_toArray, List.getElem_cons_zero, List.getElem_cons_succ]
                      refine wpAnyH_take (i := 13) (v := undef) rfl (by kernel_rfl) (by kernel_rfl) (by kernel_rfl) (fun _ _ _ h => h) (Or.inr ⟨by rfl, rfl⟩) hHeld ?_
                      simp only [Act.put, List.setIfInBounds_toArray, List.set_cons_zero, List.set_cons_succ, List.getElem_toArray, List.getElem_cons_zero, List.getElem_cons_succ]
                      refine wpAnyH_take (i := 14) (v := undef) rfl (by kernel_rfl) (by kernel_rfl) (by kernel_rfl) (fun _ _ _ h => h) (Or.inr ⟨by rfl, rfl⟩) hHeld ?_
                      simp only [Act.put, List.setIfInBounds_toArray, List.set_cons_zero, List.set_cons_succ, List.getElem_toArray, List.getElem_cons_zero, List.getElem_cons_succ]
                      refine wpAnyH_take (i := 15) (v := undef) rfl (by kernel_rfl) (by kernel_rfl) (by kernel_rfl) (fun _ _ _ h => h) (Or.inr ⟨by rfl, rfl⟩) hHeld ?_
                      simp only [Act.put, List.setIfInBounds_toArray, List.set_cons_zero, List.set_cons_succ, List.getElem_toArray, List.getElem_cons_zero, List.getElem_cons_succ]
                      refine wpAnyH_take (i := 16) (v := undef) rfl (by kernel_rfl) (by kernel_rfl) (by kernel_rfl) (fun _ _ _ h => h) (Or.inr ⟨by rfl, rfl⟩) hHeld ?_
                      simp only [Act.put, List.setIfInBounds_toArray, List.set_cons_zero, List.set_cons_succ, List.getElem_toArray, List.getElem_cons_zero, List.getElem_cons_succ]
                      refine wpAnyH_take (i := 17) (v := ?_) rfl (by kernel_rfl) (by kernel_rfl) (by kernel_rfl) (fun _ _ _ h => h) (Or.inl ⟨by rfl, ?hy⟩) hHeld ?_
                      case hy => (intro w' hSw; obtain ⟨hw1, hw2⟩ := hSw; go_simp; try with_reducible rfl)
                      simp only [Act.put, List.setIfInBounds_toArray, List.set_cons_zero, List.set_cons_succ, List.getElem_toArray, List.getElem_cons_zero, List.getElem_cons_succ]
                      refine wpAnyH_take (i := 18) (v := ?_) rfl (by kernel_rfl) (by kernel_rfl) (by kernel_rfl) (fun _ _ _ h => h) (Or.inl ⟨by rfl, ?hy⟩) hHeld ?_
                      case hy => (intro w' hSw; obtain ⟨hw1, hw2⟩ := hSw; go_simp; try with_reducible rfl)
                      simp only [Act.put, List.setIfInBounds_toArray, List.set_cons_zero, List.set_cons_succ, List.getElem_toArray, List.getElem_cons_zero, List.getElem_cons_succ]
                      refine wpAnyH_take (i := 19) (v := ?_) rfl (by kernel_rfl) (by kernel_rfl) (by kernel_rfl) (fun _ _ _ h => h) (Or.inl ⟨by rfl, ?hy⟩) hHeld ?_
                      case hy => (intro w' hSw; obtain ⟨hw1, hw2⟩ := hSw; go_simp; try with_reducible rfl)
                      simp only [Act.put, List.setIfInBounds_toArray, List.set_cons_zero, List.set_cons_succ, List.getElem_toArray, List.getElem_cons_zero, List.getElem_cons_succ]
                      refine wpAnyH_take (i := 20) (v := ?_) rfl (by kernel_rfl) (by kernel_rfl) (by kernel_rfl) (fun _ _ _ h => h) (Or.inl ⟨by rfl, ?hy⟩) hHeld ?_
                      case hy => (intro w' hSw; obtain ⟨hw1, hw2⟩ := hSw; go_simp; try with_reducible rfl)
                      simp only [Act.put, List.setIfInBounds_toArray, List.set_cons_zero, List.set_cons_succ, List.getElem_toArray, List.getElem_cons_zero, List.getElem_cons_succ]
                      refine wpAnyH_ready (rs := [21]) (by kernel_rfl) (by simp) ?_
                      refine AllReadyH.cons rfl (fun K hK => ?_) AllReadyH.nil
                      go_simp
                      go_at_call 26
                      refine (unhide Hc).mono ?_
                      rintro e w2 ⟨v2, rfl, s1, s2, -, hp⟩
                      go_wp2_with fail
                      refine hK.out _ _ ⟨s1, s2⟩ (fun hHeld2 => ?_)
                      try simp only [Act.put, List.setIfInBounds_toArray, List.set_cons_zero, List.set_cons_succ, List.getElem_toArray, List.getElem_cons_zero, List.getElem_cons_succ]
                      refine wpAnyH_take (i := 22) (v := ?_) rfl (by kernel_rfl) (by kernel_rfl) (by kernel_rfl) (fun _ _ _ h => h) (Or.inl ⟨by rfl, ?hy⟩) hHeld2 ?_
                      case hy => (intro w' hSw; obtain ⟨hw1, hw2⟩ := hSw; go_simp; try with_reducible rfl)
                      simp only [Act.put, List.setIfInBounds_toArray, List.set_cons_zero, List.set_cons_succ, List.getElem_toArray, List.getElem_cons_zero, List.getElem_cons_succ]
                      refine wpAnyH_done (by kernel_rfl) ?_ _
                      refine NoPanic.normal ?_
                      go_wp2_with fail
                      go_meet
                      exact unhide hp
                    · have Hc := hide ((unhide Hcall) (S i == (k : Int) + 1) (.inr ⟨SB, sc, S i, rfl, hsc, rfl⟩) none 0 0 hv hO)
                      rw [hv] at arow
                      have Hscs := hide hscs
                      clear Hcall hO hv Hown hscs
                      go_region_held3 (fun w' => w'.cell? ⟨A q, i, none⟩ = some (.slice none 0 0) ∧ w'.cell? ⟨RS, 0, none⟩ = some (.int .i64 ((k : Int) + 1)) ∧ w'.cell? ⟨SB, i, none⟩ = some (.int .i64 (S i))) (first | exact ⟨arow, e0, hsc⟩ | exact ⟨s1, s2, s3⟩) (first | (go_at_call 26; refine (unhide Hc).mono ?_; rintro e w2 ⟨v2, rfl, s1, s2, s3', hp⟩; have s3 := (s3' SB cs (unhide Hscs)).trans hsc; clear s3'))
                      go_wp2_with fail
                      go_meet
                      exact unhide hp
                  · rcases hst with rfl | ⟨SB, sc, rfl, hsc, cs, hscs⟩
                    · have Hc := hide ((unhide Hcall) false (.inl ⟨rfl, rfl⟩) (some ⟨g, 0, none⟩) l c hv hO)
                      rw [hv] at arow
                      clear Hcall hO hv Hown
                      refine wp_region_noPanic ?_
                      refine wp_region_held_drew (S := fun w' => w'.cell? ⟨A q, i, none⟩ = some (.slice (some ⟨g, 0, none⟩) l c) ∧ w'.cell? ⟨RS, 0, none⟩ = some (.int .i64 ((k : Int) + 1))) (by kernel_rfl) ⟨arow, e0⟩ (fun hHeld => ?_)
                      refine wpAnyH_take (i := 0) (v := ?_) rfl (by kernel_rfl) (by kernel_rfl) (by kernel_rfl) (fun _ _ _ h => h) (Or.inl ⟨by rfl, ?hy⟩) hHeld ?_
                      case hy => (intro w' hSw; obtain ⟨hw1, hw2⟩ := hSw; go_simp; try with_reducible rfl)
                      simp only [Act.put, List.setIfInBounds_toArray, List.set_cons_zero, List.set_cons_succ, List.getElem_toArray, List.getElem_cons_zero, List.getElem_cons_succ]
                      refine wpAnyH_take (i := 1) (v := ?_) rfl (by kernel_rfl) (by kernel_rfl) (by kernel_rfl) (fun _ _ _ h => h) (Or.inl ⟨by rfl, ?hy⟩) hHeld ?_
                      case hy => (intro w' hSw; obtain ⟨hw1, hw2⟩ := hSw; go_simp; try with_reducible rfl)
                      simp only [Act.put, List.setIfInBounds_toArray, List.set_cons_zero, List.set_cons_succ, List.getElem_toArray, List.getElem_cons_zero, List.getElem_cons_succ]
                      refine wpAnyH_take (i := 2) (v := ?_) rfl (by kernel_rfl) (by kernel_rfl) (by kernel_rfl) (fun _ _ _ h => h) (Or.inl ⟨by rfl, ?hy⟩) hHeld ?_
                      case hy => (intro w' hSw; obtain ⟨hw1, hw2⟩ := hSw; go_simp; try with_reducible rfl)
                      simp only [Act.put, List.setIfInBounds_toArray, List.set_cons_zero, List.set_cons_succ, List.getElem_toArray, List.getElem_cons_zero, List.getElem_cons_succ]
                      refine wpAnyH_take (i := 3) (v := ?_) rfl (by kernel_rfl) (by kernel_rfl) (by kernel_rfl) (fun _ _ _ h => h) (Or.inl ⟨by rfl, ?hy⟩) hHeld ?_
                      case hy => (intro w' hSw; obtain ⟨hw1, hw2⟩ := hSw; go_simp; try with_reducible rfl)
                      simp only [Act.put, List.setIfInBounds_toArray, List.set_cons_zero, List.set_cons_succ, List.getElem_toArray, List.getElem_cons_zero, List.getElem_cons_succ]
                      refine wpAnyH_take (i := 4) (v := ?_) rfl (by kernel_rfl) (by kernel_rfl) (by kernel_rfl) (fun _ _ _ h => h) (Or.inl ⟨by rfl, ?hy⟩) hHeld ?_
                      case hy => (intro w' hSw; obtain ⟨hw1, hw2⟩ := hSw; go_simp; try with_reducible rfl)
                      simp only [Act.put, List.setIfInBounds_toArray, List.set_cons_zero, List.set_cons_succ, List.getElem_toArray, List.getElem_cons_zero, List.getElem_cons_succ]
                      refine wpAnyH_take (i := 5) (v := ?_) rfl (by kernel_rfl) (by kernel_rfl) (by kernel_rfl) (fun _ _ _ h => h) (Or.inl ⟨by rfl, ?hy⟩) hHeld ?_
                      case hy => (intro w' hSw; obtain ⟨hw1, hw2⟩ := hSw; go_simp; try with_reducible rfl)
                      simp only [Act.put, List.setIfInBounds_toArray, List.set_cons_zero, List.set_cons_succ, List.getElem_toArray, List.getElem_cons_zero, List.getElem_cons_succ]
                      refine wpAnyH_take (i := 6) (v := ?_) rfl (by kernel_rfl) (by kernel_rfl) (by kernel_rfl) (fun _ _ _ h => h) (Or.inl ⟨by rfl, ?hy⟩) hHeld ?_
                      case hy => (intro w' hSw; obtain ⟨hw1, hw2⟩ := hSw; go_simp; try with_reducible rfl)
                      simp only [Act.put, List.setIfInBounds_toArray, List.set_cons_zero, List.set_cons_succ, List.getElem_toArray, List.getElem_cons_zero, List.getElem_cons_succ]
                      refine wpAnyH_take (i := 7) (v := ?_) rfl (by kernel_rfl) (by kernel_rfl) (by kernel_rfl) (fun _ _ _ h => h) (Or.inl ⟨by rfl, ?hy⟩) hHeld ?_
                      case hy => (intro w' hSw; obtain ⟨hw1, hw2⟩ := hSw; go_simp; try with_reducible rfl)
                      simp only [Act.put, List.setIfInBounds_toArray, List.set_cons_zero, List.set_cons_succ, List.getElem_toArray, List.getElem_cons_zero, List.getElem_cons_succ]
                      refine wpAnyH_take (i := 8) (v := ?_) rfl (by kernel_rfl) (by kernel_rfl) (by kernel_rfl) (fun _ _ _ h => h) (Or.inl ⟨by rfl, ?hy⟩) hHeld ?_
                      case hy => (intro w' hSw; obtain ⟨hw1, hw2⟩ := hSw; go_simp; try with_reducible rfl)
                      simp only [Act.put, List.setIfInBounds_toArray, List.set_cons_zero, List.set_cons_succ, List.getElem_toArray, List.getElem_cons_zero, List.getElem_cons_succ]
                      refine wpAnyH_take (i := 9) (v := ?_) rfl (by kernel_rfl) (by kernel_rfl) (by kernel_rfl) (fun _ _ _ h => h) (Or.inl ⟨by rfl, ?hy⟩) hHeld ?_
                      case hy => (intro w' hSw; obtain ⟨hw1, hw2⟩ := hSw; go_simp; try with_reducible rfl)
                      simp only [Act.put, List.setIfInBounds_toArray, List.set_cons_zero, List.set_cons_succ, List.getElem_toArray, List.getElem_cons_zero, List.getElem_cons_succ]
                      refine wpAnyH_take (i := 10) (v := undef) rfl (by kernel_rfl) (by kernel_rfl) (by kernel_rfl) (fun _ _ _ h => h) (Or.inr ⟨by rfl, rfl⟩) hHeld ?_
                      simp only [Act.put, List.setIfInBounds_toArray, List.set_cons_zero, List.set_cons_succ, List.getElem_toArray, List.getElem_cons_zero, List.getElem_cons_succ]
                      refine wpAnyH_take (i := 11) (v := undef) rfl (by kernel_rfl) (by kernel_rfl) (by kernel_rfl) (fun _ _ _ h => h) (Or.inr ⟨by rfl, rfl⟩) hHeld ?_
                      simp only [Act.put, List.setIfInBounds_toArray, List.set_cons_zero, List.set_cons_succ, List.getElem_toArray, List.getElem_cons_zero, List.getElem_cons_succ]
                      refine wpAnyH_take (i := 12) (v := undef) rfl (by kernel_rfl) (by kernel_rfl) (by kernel_rfl) (fun _ _ _ h => h) (Or.inr ⟨by rfl, rfl⟩) hHeld ?_
                      simp only [Act.put, List.setIfInBounds_toArray, List.set_cons_zero, List.set_cons_succ, List.getElem_toArray, List.getElem_cons_zero, List.getElem_cons_succ]
                      refine wpAnyH_take (i := 13) (v := undef) rfl (by kernel_rfl) (by kernel_rfl) (by kernel_rfl) (fun _ _ _ h => h) (Or.inr ⟨by rfl, rfl⟩) hHeld ?_
                      simp only [Act.put, List.setIfInBounds_toArray, List.set_cons_zero, List.set_cons_succ, List.getElem_toArray, List.getElem_cons_zero, List.getElem_cons_succ]
                      refine wpAnyH_take (i := 14) (v := undef) rfl (by kernel_rfl) (by kernel_rfl) (by kernel_rfl) (fun _ _ _ h => h) (Or.inr ⟨by rfl, rfl⟩) hHeld ?_
                      simp only [Act.put, List.setIfInBounds_toArray, List.set_cons_zero, List.set_cons_succ, List.getElem_toArray, List.getElem_cons_zero, List.getElem_cons_succ]
                      refine wpAnyH_take (i := 15) (v := undef) rfl (by kernel_rfl) (by kernel_rfl) (by kernel_rfl) (fun _ _ _ h => h) (Or.inr ⟨by rfl, rfl⟩) hHeld ?_
                      simp only [Act.put, List.setIfInBounds_toArray, List.set_cons_zero, List.set_cons_succ, List.getElem_toArray, List.getElem_cons_zero, List.getElem_cons_succ]
                      refine wpAnyH_take (i := 16) (v := undef) rfl (by kernel_rfl) (by kernel_rfl) (by kernel_rfl) (fun _ _ _ h => h) (Or.inr ⟨by rfl, rfl⟩) hHeld ?_
                      simp only [Act.put, List.setIfInBounds_toArray, List.set_cons_zero, List.set_cons_succ, List.getElem_toArray, List.getElem_cons_zero, List.getElem_cons_succ]
                      refine wpAnyH_take (i := 17) (v := ?_) rfl (by kernel_rfl) (by kernel_rfl) (by kernel_rfl) (fun _ _ _ h => h) (Or.inl ⟨by rfl, ?hy⟩) hHeld ?_
                      case hy => (intro w' hSw; obtain ⟨hw1, hw2⟩ := hSw; go_simp; try with_reducible rfl)
                      simp only [Act.put, List.setIfInBounds_toArray, List.set_cons_zero, List.set_cons_succ, List.getElem_toArray, List.getElem_cons_zero, List.getElem_cons_succ]
                      refine wpAnyH_take (i := 18) (v := ?_) rfl (by kernel_rfl) (by kernel_rfl) (by kernel_rfl) (fun _ _ _ h => h) (Or.inl ⟨by rfl, ?hy⟩) hHeld ?_
                      case hy => (intro w' hSw; obtain ⟨hw1, hw2⟩ := hSw; go_simp; try with_reducible rfl)
                      simp only [Act.put, List.setIfInBounds_toArray, List.set_cons_zero, List.set_cons_succ, List.getElem_toArray, List.getElem_cons_zero, List.getElem_cons_succ]
                      refine wpAnyH_take (i := 19) (v := ?_) rfl (by kernel_rfl) (by kernel_rfl) (by kernel_rfl) (fun _ _ _ h => h) (Or.inl ⟨by rfl, ?hy⟩) hHeld ?_
                      case hy => (intro w' hSw; obtain ⟨hw1, hw2⟩ := hSw; go_simp; try with_reducible rfl)
                      simp only [Act.put, List.setIfInBounds_toArray, List.set_cons_zero, List.set_cons_succ, List.getElem_toArray, List.getElem_cons_zero, List.getElem_cons_succ]
                      refine wpAnyH_take (i := 20) (v := ?_) rfl (by kernel_rfl) (by kernel_rfl) (by kernel_rfl) (fun _ _ _ h => h) (Or.inl ⟨by rfl, ?hy⟩) hHeld ?_
                      case hy => (intro w' hSw; obtain ⟨hw1, hw2⟩ := hSw; go_simp; try with_reducible rfl)
                      simp only [Act.put, List.setIfInBounds_toArray, List.set_cons_zero, List.set_cons_succ, List.getElem_toArray, List.getElem_cons_zero, List.getElem_cons_succ]
                      refine wpAnyH_ready (rs := [21]) (by kernel_rfl) (by simp) ?_
                      refine AllReadyH.cons rfl (fun K hK => ?_) AllReadyH.nil
                      go_simp
                      go_at_call 26
                      refine (unhide Hc).mono ?_
                      rintro e w2 ⟨v2, rfl, s1, s2, -, hp⟩
                      go_wp2_with fail
                      refine hK.out _ _ ⟨s1, s2⟩ (fun hHeld2 => ?_)
                      try simp only [Act.put, List.setIfInBounds_toArray, List.set_cons_zero, List.set_cons_succ, List.getElem_toArray, List.getElem_cons_zero, List.getElem_cons_succ]
                      refine wpAnyH_take (i := 22) (v := ?_) rfl (by kernel_rfl) (by kernel_rfl) (by kernel_rfl) (fun _ _ _ h => h) (Or.inl ⟨by rfl, ?hy⟩) hHeld2 ?_
                      case hy => (intro w' hSw; obtain ⟨hw1, hw2⟩ := hSw; go_simp; try with_reducible rfl)
                      simp only [Act.put, List.setIfInBounds_toArray, List.set_cons_zero, List.set_cons_succ, List.getElem_toArray, List.getElem_cons_zero, List.getElem_cons_succ]
                      refine wpAnyH_done (by kernel_rfl) ?_ _
                      refine NoPanic.normal ?_
                      go_wp2_with fail
                      go_meet
                      exact unhide hp
                    · have Hc := hide ((unhide Hcall) (S i == (k : Int) + 1) (.inr ⟨SB, sc, S i, rfl, hsc, rfl⟩) (some ⟨g, 0, none⟩) l c hv hO)
                      rw [hv] at arow
                      have Hscs := hide hscs
                      clear Hcall hO hv Hown hscs
                      go_region_held3 (fun w' => w'.cell? ⟨A q, i, none⟩ = some (.slice (some ⟨g, 0, none⟩) l c) ∧ w'.cell? ⟨RS, 0, none⟩ = some (.int .i64 ((k : Int) + 1)) ∧ w'.cell? ⟨SB, i, none⟩ = some (.int .i64 (S i))) (first | exact ⟨arow, e0, hsc⟩ | exact ⟨s1, s2, s3⟩) (first | (go_at_call 26; refine (unhide Hc).mono ?_; rintro e w2 ⟨v2, rfl, s1, s2, s3', hp⟩; have s3 := (s3' SB cs (unhide Hscs)).trans hsc; clear s3'))
                      go_wp2_with fail
                      go_meet
                      exact unhide hp
                case rest =>
                  clear Hcall Hown arow e0 hst hmeth hnilS
                  obtain ⟨hf, hx, hri, hob⟩ := hcut
                  have hvr : ∃ l xs, wc.ownsRow RS 47 1 u22 l xs := by
                    rcases hri with ⟨-, -, g, c, xs, -, h, -⟩ | ⟨-, a, c, -, h⟩
                    · exact ⟨_, _, h⟩
                    · exact ⟨_, _, h⟩
                  obtain ⟨hd2, hro, hrv, ⟨z, hz⟩, hzf⟩ := (unhide HDj).step (unhide HI).inj hq2 hin hf hx hvr hob
                  have hri2 := hrv len P i (k + 1) hri
                  obtain ⟨W2, hW2⟩ : ∃ W2, W2 = wc.setCell ⟨A q, i, none⟩ u22 := ⟨_, rfl⟩
                  rw [← hW2] at hd2 hro hri2
                  have hrel := (unhide HI).relc hd2.fr hin
                  have Hend : Hid (∃ R2, Dyn w n ST RV BV SA RS RC RW RS X A stop B W2 k ((k : Int) + 1) (sumB B k) (fun t => if t < i + 1 then k + 1 else k) R2 ∧ (∀ j, j < n → RowIs W2 RS n len P (R2 p j) j k) ∧ ∀ j, j < i + 1 → RowIs W2 RS n len P (R2 q j) j (k + 1)) := hide (by
                    refine ⟨fun q' j => if q' = q ∧ j = i then u22 else R' q' j, ?_, fun j hj => ?_, fun j hj => ?_⟩
                    · rw [show (fun t => if t < i + 1 then k + 1 else k : Nat → Nat) = (fun j => if j = i then k + 1 else if j < i then k + 1 else k) from funext fun t => by
                        by_cases h1 : t = i
                        · rw [if_pos h1, if_pos (by omega)]
                        · rw [if_neg h1]
                          by_cases h2 : t < i
                          · rw [if_pos h2, if_pos (by omega)]
                          · rw [if_neg h2, if_neg (by omega)]]
                      exact hd2
                    · have hne : ¬ (p = q ∧ j = i) := fun h => (unhide Hpq) h.1
                      simp only [if_neg hne]
                      exact hro len P p j k hp2 hj hne ((unhide Hrpj) j hj)
                    · by_cases hji : j = i
                      · subst hji
                        simp only [and_self, if_true]
                        exact hri2
                      · have hne : ¬ (q = q ∧ j = i) := fun h => hji h.2
                        show RowIs W2 RS n len P (if q = q ∧ j = i then u22 else R' q j) j (k + 1)
                        rw [show (if q = q ∧ j = i then u22 else R' q j) = R' q j from if_neg hne]
                        exact hro len P q j (k + 1) hq2 (by omega) hne ((unhide Hrqj) j (by omega)))
                  have Hsum : Hid (bitsSum len P rel n (k + 1) (i + 1) = bitsSum len P rel n (k + 1) i + (if (rel i && sendsB len P i (k + 1)) = true then costSum (msgO len P i (k + 1)) i n else 0)) := hide rfl
                  have hcb := costSum_bd (msgO len P i (k + 1)) i (fun _ _ h => msgO_le h) n
                  have hbs' : 0 ≤ bitsSum len P rel n (k + 1) i ∧ bitsSum len P rel n (k + 1) i ≤ 16000 := by
                    have e : (1000 : Int) * n * i = ((1000 * n * i : Nat) : Int) := by push_cast; rfl
                    have := Nat.mul_le_mul (Nat.mul_le_mul (Nat.le_refl 1000) hn) (show i ≤ 4 by omega)
                    omega
                  obtain ⟨b1, b2⟩ := hbs'
                  obtain ⟨b3, b4⟩ := hcb
                  have Hri2 := hide hri2
                  clear hbs hf hx hvr hob hd2 hro hrv hri2 HDj Hrpj Hrqj
                  obtain ⟨R0, hR0⟩ : ∃ R0, R0 = bitsSum len P rel n (k + 1) i := ⟨_, rfl⟩
                  rw [← hR0] at b1 b2 Hsum ⊢
                  clear hR0
                  rcases hri with ⟨-, hsd, g, c, xs, rfl, -, -⟩ | ⟨hsd, a, c, rfl, -⟩
                  · have hn0 : ((n : Int) != 0) = true := by simp; omega
                    rw [hsd] at Hsum
                    have HC : Hid (Calls Ybaf.prog 8 #[.int .i64 i, .slice (some ⟨g, 0, none⟩) n c] W2 fun e w' => e = .returned (.int .i64 (costSum (msgO len P i (k + 1)) i n)) ∧ w' = W2) := hide (cost_walk (some ⟨g, 0, none⟩) n c i (msgO len P i (k + 1)) W2 (by omega) (by omega) (fun _ _ h => msgO_le h) (fun _ => ⟨g, 0, rfl, fun j hj => by
                      rcases unhide Hri2 with ⟨-, -, g', c', xs', e, hown, hms⟩ | ⟨h, -⟩
                      · cases e
                        obtain ⟨u, hu, hm⟩ := hms j hj
                        exact ⟨u, by rw [Nat.zero_add, own_cell hown hj]; exact hu, hm.v⟩
                      · rcases h with h | h
                        · omega
                        · rw [hsd] at h; cases h⟩))
                    generalize costSum (msgO len P i (k + 1)) i n = C0 at b3 b4 Hsum HC
                    clear hsd Hri2
                    go_upto_region 23 with fail
                    rw [← hW2]
                    clear hW2 hz hzf
                    cases hrl : rel i with
                    | false =>
                      rw [hrl] at hrel Hsum
                      go_wp2_with fail
                      go_roundg (n - (i + 1))
                      case measure => omega
                      case rel =>
                        obtain ⟨R2, g1, g2, g3⟩ := unhide Hend
                        exact ⟨i + 1, R2, by omega, by go_num, by rw [unhide Hsum]; simp, g1, g2, g3⟩
                    | true =>
                      rw [hrl] at hrel Hsum
                      go_wp2_with (go_at_call 8; refine (unhide HC).mono ?_; rintro e W2 ⟨rfl, rfl⟩)
                      go_roundg (n - (i + 1))
                      case measure => omega
                      case rel =>
                        obtain ⟨R2, g1, g2, g3⟩ := unhide Hend
                        exact ⟨i + 1, R2, by omega, by go_num, by rw [unhide Hsum]; simp, g1, g2, g3⟩
                  · have hsd' : sendsB len P i (k + 1) = false := by
                      rcases hsd with h | h
                      · omega
                      · exact h
                    rw [hsd'] at Hsum
                    have Hsum2 : Hid (bitsSum len P rel n (k + 1) (i + 1) = R0) := hide (by rw [unhide Hsum]; simp)
                    have HC : Hid (Calls Ybaf.prog 8 #[.int .i64 i, .slice a 0 c] W2 fun e w' => e = .returned (.int .i64 0) ∧ w' = W2) := hide (cost_walk a 0 c i (msgO len P i (k + 1)) W2 (by omega) (by omega) (fun _ _ h => msgO_le h) (fun h => absurd h (by omega)))
                    clear hsd hsd' Hri2 Hsum b3 b4
                    go_upto_region 23 with fail
                    rw [← hW2]
                    clear hW2 hz hzf
                    cases hrl : rel i with
                    | false =>
                      rw [hrl] at hrel
                      go_wp2_with fail
                      go_roundg (n - (i + 1))
                      case measure => omega
                      case rel =>
                        obtain ⟨R2, g1, g2, g3⟩ := unhide Hend
                        exact ⟨i + 1, R2, by omega, by go_num, by rw [unhide Hsum2], g1, g2, g3⟩
                    | true =>
                      rw [hrl] at hrel
                      go_wp2_with (go_at_call 8; refine (unhide HC).mono ?_; rintro e W2 ⟨rfl, rfl⟩)
                      go_roundg (n - (i + 1))
                      case measure => omega
                      case rel =>
                        obtain ⟨R2, g1, g2, g3⟩ := unhide Hend
                        exact ⟨i + 1, R2, by omega, by go_num, by rw [unhide Hsum2], g1, g2, g3⟩
          · have hin' : i = n := by omega
            have hbk : bitsSum len P rel n (k + 1) i = B k := by rw [(unhide HB) k, hin']
            have hBb : ∀ t, 0 ≤ B t ∧ B t ≤ 16000 := fun t => by
              rw [(unhide HB) t]
              have h := bitsSum_bd len P rel n (t + 1) n
              have e : (1000 : Int) * n * n = ((1000 * n * n : Nat) : Int) := by push_cast; rfl
              have := Nat.mul_le_mul (Nat.mul_le_mul (Nat.le_refl 1000) hn) hn
              omega
            obtain ⟨sb1, sb2⟩ := sumB_bd B hBb k
            obtain ⟨bb1, bb2⟩ := hBb k
            rw [hbk]
            have rs0 : wr.cell? ⟨RS, 0, none⟩ = some (.int .i64 ((k : Int) + 1)) := by simp [World.cell?, hd.rs]
            have rs1 : wr.cell? ⟨RS, 1, none⟩ = some (.int .i64 (sumB B k)) := by simp [World.cell?, hd.rs]
            have rsf : wr.frozen? ⟨RS, 1, none⟩ = false := by simp [World.frozen?, hd.rs]
            obtain ⟨W3, hW3⟩ : ∃ W3, W3 = wr.setCell ⟨RS, 1, none⟩ (.int .i64 (sumB B k + B k)) := ⟨_, rfl⟩
            have hs3 : W3.heap[RS]? = some (.cells #[.int .i64 ((k : Int) + 1), .int .i64 (sumB B k + B k)] 40 (0, 0)) := by rw [hW3, heap_setCell_same wr RS 1 _ 40 _ hd.rs]; rfl
            have hf3 : Fr (fun x => x = RS) wr W3 := by rw [hW3]; exact Fr.set rfl
            obtain ⟨hd3, hr3⟩ := hd.setRS hf3 hs3
            have hrw3 : ∀ j, j < n → RowIs W3 RS n len P (R' ((k + 1) % 2) j) j (k + 1) := fun j hj => by
              rw [← unhide Hq]
              exact hr3 len P q j (k + 1) hq2 hj (hrq j (by omega))
            have hd3' := hd3.steps (st' := fun _ => k + 1) (fun t ht => if_pos (by omega))
            obtain ⟨v1, v2, ht3⟩ := hd3'.told
            have HDn := hide (done_walk RV BV SA w.heap.size k stop B v1 v2 W3 (by omega) ht3 hd3'.fr.size (block_lt (unhide HI).told.rv) (block_lt (unhide HI).told.bv))
            have e30 : W3.cell? ⟨RS, 0, none⟩ = some (.int .i64 ((k : Int) + 1)) := by simp [World.cell?, hs3]
            have Hd3 := hide hd3'
            have Hrw3 := hide hrw3
            have Ht3 := hide ht3
            have HBk : Hid (sumB B (k + 1) = sumB B k + B k) := hide rfl
            generalize B k = Bk at bb1 bb2 HDn HBk Hd3 hW3 ⊢
            generalize sumB B k = Sk at sb1 sb2 HBk Hd3 rs1 hW3 ⊢
            clear hd hrp hrq hbs hbk hBb hs3 hf3 hd3 hr3 hrw3 hd3' ht3
            go_upto_region 27 with fail
            rw [← hW3]
            clear hW3 rs0 rs1 rsf
            cases hdn : ((k : Int) + 1 == stop) with
            | false =>
              rw [hdn] at HDn
              have hne : ¬ (k : Int) + 1 = stop := by simpa using hdn
              have Hne := hide hne
              clear hdn hne
              go_wp2_with (go_at_call 4; refine (unhide HDn).mono ?_; rintro e W4 ⟨rfl, v1', v2', ht4, hf4⟩; have Ht4 := hide ht4; have Hf4 := hide hf4; clear ht4 hf4)
              go_roundg (hor.toNat - (k + 1))
              case measure => omega
              case rel =>
                obtain ⟨hd4, hr4⟩ := (unhide Hd3).done (unhide Ht3) (unhide Hf4) (unhide Ht4)
                refine ⟨k + 1, R', by omega, ?_, ?_, fun j hj => hr4 len P _ j (k + 1) (Nat.mod_lt _ (by omega)) hj ((unhide Hrw3) j hj)⟩
                · have := unhide Hne
                  have := unhide Hns
                  omega
                · rw [unhide HBk]
                  exact hd4
            | true =>
              rw [hdn] at HDn
              have heq : (k : Int) + 1 = stop := by simpa using hdn
              have hw : wantN hor stop = k + 1 := by
                unfold wantN
                rw [if_pos (by omega)]
                split <;> omega
              have Hw := hide hw
              clear hdn heq hw
              go_wp2_with (go_at_call 4; refine (unhide HDn).mono ?_; rintro e W4 ⟨rfl, v1', v2', ht4, hf4⟩; obtain ⟨hd4, hr4⟩ := (unhide Hd3).done (unhide Ht3) (unhide hf4) (unhide ht4); have r0 : W4.cell? ⟨RS, 0, none⟩ = some (.int .i64 ((k : Int) + 1)) := (by simp [World.cell?, hd4.rs]); have r1 : W4.cell? ⟨RS, 1, none⟩ = some (.int .i64 (Sk + Bk)) := (by simp [World.cell?, hd4.rs]); have r2 : W4.cell? ⟨w.heap.size, 0, none⟩ = some (.int .i64 0) := (by simp [World.cell?, hd4.re]); have r3 : W4.cell? ⟨w.heap.size, 1, none⟩ = some (.int .i64 0) := (by simp [World.cell?, hd4.re]); have r4 : W4.frozen? ⟨w.heap.size, 0, none⟩ = false := (by simp [World.frozen?, hd4.re]); have r5 : W4.frozen? ⟨w.heap.size, 1, none⟩ = false := (by simp [World.frozen?, hd4.re]); have Hd4 := hide hd4; clear ht4 hf4 hd4 hr4)
              obtain ⟨W5, hW5⟩ : ∃ W5, W5 = (W4.setCell ⟨w.heap.size, 0, none⟩ (.int .i64 ((k : Int) + 1))).setCell ⟨w.heap.size, 1, none⟩ (.int .i64 (Sk + Bk)) := ⟨_, rfl⟩
              rw [← hW5]
              have h5 : W5.heap[w.heap.size]? = some (.cells #[.int .i64 ((k : Int) + 1), .int .i64 (Sk + Bk)] 40 (0, 0)) := by rw [hW5, heap_setCell_same _ _ 1 _ 40 _ (heap_setCell_same W4 _ 0 _ 40 _ (unhide Hd4).re)]; rfl
              have q0 : W5.cell? ⟨w.heap.size, 0, none⟩ = some (.int .i64 ((k : Int) + 1)) := by simp [World.cell?, h5]
              have q1 : W5.cell? ⟨w.heap.size, 1, none⟩ = some (.int .i64 (Sk + Bk)) := by simp [World.cell?, h5]
              have f5 : Fr (fun x => x = w.heap.size) W4 W5 := by rw [hW5]; exact (Fr.set (p := fun x => x = w.heap.size) rfl).trans (Fr.set rfl)
              obtain ⟨z1, z2, z3⟩ := (unhide Hd4).finish f5
              have hKk : K = k + 1 := (unhide HK).trans (unhide Hw)
              have Hz := hide (And.intro z1 (And.intro z2 z3))
              have HKk := hide hKk
              clear hW5 h5 f5 z1 z2 z3 hKk r0 r1 r2 r3 r4 r5
              refine bodyPost_ret (by simp [results, Ybaf.results5, go_sem, q0, q1]; try rfl) rfl ?_
              obtain rfl := unhide HKk
              rw [unhide HBk]
              exact ⟨rfl, unhide Hz⟩
      · have hw : wantN hor stop = k := by
          unfold wantN
          split
          · split <;> omega
          · omega
        have Hw := hide hw
        have r1 : wr.cell? ⟨RS, 1, none⟩ = some (.int .i64 (sumB B k)) := by simp [World.cell?, hd.rs]
        have r2 : wr.cell? ⟨w.heap.size, 0, none⟩ = some (.int .i64 0) := by simp [World.cell?, hd.re]
        have r3 : wr.cell? ⟨w.heap.size, 1, none⟩ = some (.int .i64 0) := by simp [World.cell?, hd.re]
        have r4 : wr.frozen? ⟨w.heap.size, 0, none⟩ = false := by simp [World.frozen?, hd.re]
        have r5 : wr.frozen? ⟨w.heap.size, 1, none⟩ = false := by simp [World.frozen?, hd.re]
        have HD := hide hd
        clear hd hrow hw hns
        go_wp2_with fail
        obtain ⟨W5, hW5⟩ : ∃ W5, W5 = (wr.setCell ⟨w.heap.size, 0, none⟩ (.int .i64 k)).setCell ⟨w.heap.size, 1, none⟩ (.int .i64 (sumB B k)) := ⟨_, rfl⟩
        rw [← hW5]
        have h5 : W5.heap[w.heap.size]? = some (.cells #[.int .i64 k, .int .i64 (sumB B k)] 40 (0, 0)) := by rw [hW5, heap_setCell_same _ _ 1 _ 40 _ (heap_setCell_same wr _ 0 _ 40 _ (unhide HD).re)]; rfl
        have q0 : W5.cell? ⟨w.heap.size, 0, none⟩ = some (.int .i64 k) := by simp [World.cell?, h5]
        have q1 : W5.cell? ⟨w.heap.size, 1, none⟩ = some (.int .i64 (sumB B k)) := by simp [World.cell?, h5]
        have f5 : Fr (fun x => x = w.heap.size) wr W5 := by rw [hW5]; exact (Fr.set (p := fun x => x = w.heap.size) rfl).trans (Fr.set rfl)
        obtain ⟨z1, z2, z3⟩ := (unhide HD).finish f5
        have hKk : K = k := (unhide HK).trans (unhide Hw)
        have Hz := hide (And.intro z1 (And.intro z2 z3))
        have HKk := hide hKk
        clear hW5 h5 f5 z1 z2 z3 hKk r1 r2 r3 r4 r5 rs0 rs1
        refine bodyPost_ret (by simp [results, Ybaf.results5, go_sem, q0, q1]; try rfl) rfl ?_
        obtain rfl := unhide HKk
        exact ⟨rfl, unhide Hz⟩

end Go.Proofs.YbulkbsnkFmt
