/-
  Seat b3453a: the walk of '(*LiquidationRun).keepTaker' (function 5) where the last chunk is full, or there is none.
-/
import Derived.Test.YbulkbsmiKeep
namespace Go.Proofs.Ybulkbsmi
open Go.RowKit
set_option linter.unusedVariables false
attribute [local go_sem ↓] Go.wp_at_zero Go.wp_at_succ

/-- A run's eleven cells. -/
def lrCells (tv : Value) (T : Nat) : Array Value := #[.pointer none, .map none, .pointer none, .int .i64 0, .pointer none, .int .i64 0, .int .i64 0, .pointer none, .int .i64 0, tv, .int .i64 T]

theorem lr_facts {w : World} {L : Nat} {tv : Value} {T : Nat} (h : w.heap[L]? = some (.cells (lrCells tv T) 32 (0, 0))) :
    (w.cell? ⟨L, 9, none⟩ = some tv ∧ w.cell? ⟨L, 10, none⟩ = some (.int .i64 T)) ∧ (w.frozen? ⟨L, 9, none⟩ = false ∧ w.frozen? ⟨L, 10, none⟩ = false) ∧ L < w.heap.size := by
  refine ⟨⟨?_, ?_⟩, ⟨?_, ?_⟩, (Array.getElem?_eq_some_iff.1 h).1⟩ <;> simp [World.cell?, World.frozen?, h, lrCells]

/-- The capacity of a new chunk. -/
def newCap (T : Nat) : Nat := min (max 8 T) 4096

theorem newCap_eq (T : Nat) : (if (4096 : Int) < (if (8 : Int) < (T : Int) then (T : Int) else 8) then (4096 : Int) else if (8 : Int) < (T : Int) then (T : Int) else 8) = (newCap T : Int) := by
  unfold newCap
  split <;> split <;> omega
theorem newCap_le (T : Nat) : newCap T ≤ 4096 := by unfold newCap; omega
theorem newCap_ge (T : Nat) : 8 ≤ newCap T := by unfold newCap; omega

/-- The new chunk's cells. -/
def mkCells (T : Nat) : Array Value := madeCells #[.string ByteArray.empty, .int .i64 0, .pointer none, .int .i64 0, .int .i64 0, .pointer none, .int .i64 0] (newCap T * 7)

theorem run_mk (T : Nat) (W : World) : (Instr.makeSlice 36 (.int .i64 0) (.int .i64 (if (4096 : Int) < (if (8 : Int) < (T : Int) then (T : Int) else 8) then (4096 : Int) else if (8 : Int) < (T : Int) then (T : Int) else 8))).run Yba.prog W
    = .ok (.slice (some ⟨W.heap.size, 0, none⟩) 0 (newCap T)) (W.alloc (.cells (mkCells T) 35)) := by
  obtain ⟨i0, hi, hz0, hz1, hz2⟩ := info_parts info35
  have hle := newCap_le T
  rw [newCap_eq]
  have h := run_make (P := Yba.prog) W 36 35 i0 _ Yba.underlying36 hi hz0 .i64 .i64 0 (newCap T) (Int.le_refl _) (by omega) (by rw [hz2]; omega) (by omega)
  rw [hz1] at h
  exact h

theorem mk_owns (T : Nat) (W : World) (base : Nat) (hb : base ≤ W.heap.size) : (W.alloc (.cells (mkCells T) 35)).ownsRow base 35 7 (.slice (some ⟨W.heap.size, 0, none⟩) 0 (newCap T)) 0 [] := by
  have hle := newCap_le T
  exact ⟨rfl, .inr ⟨W.heap.size, newCap T, mkCells T, rfl, hb, heap_alloc_new W _, Nat.zero_le _, by unfold maxLen; omega, by simp [mkCells, size_madeCells], by simp⟩⟩

/-- What is owned hangs on one block. -/
theorem ownsRow_same {w w' : World} {base g n cap : Nat} {e : TypeId} {size : Nat} {xs : List Value} (h : w.ownsRow base e size (.slice (some ⟨g, 0, none⟩) n cap) n xs) (hg : w'.heap[g]? = w.heap[g]?) : w'.ownsRow base e size (.slice (some ⟨g, 0, none⟩) n cap) n xs := by
  refine ⟨h.1, ?_⟩
  rcases h.2 with hn | ⟨g', cap', cur, hv, hbg, hh, rest⟩
  · exact .inl hn
  · have e : g = g' := (show g = g' ∧ cap = cap' by simpa using hv).1
    subst e
    exact .inr ⟨g, cap', cur, hv, hbg, hg.trans hh, rest⟩

/-- The block of an owned slice. -/
theorem ownsRow_block {w : World} {base g n cap : Nat} {e : TypeId} {size : Nat} {xs : List Value} (h : w.ownsRow base e size (.slice (some ⟨g, 0, none⟩) n cap) n xs) : base ≤ g ∧ ∃ cur, w.heap[g]? = some (.cells cur e (0, 0)) := by
  rcases h.2 with ⟨hn, _⟩ | ⟨g', cap', cur, hv, hbg, hh, rest⟩
  · cases hn
  · have e : g = g' := (show g = g' ∧ cap = cap' by simpa using hv).1
    subst e
    exact ⟨hbg, cur, hh⟩

theorem ownBlock_form {w : World} {base n cap : Nat} {ao : Option Addr} {e : TypeId} {size : Nat} {xs : List Value} (h : w.ownsRow base e size (.slice ao n cap) n xs) :
    (Value.slice ao n cap).ownBlock = none ∨ ∃ g cur, (Value.slice ao n cap).ownBlock = some g ∧ base ≤ g ∧ w.heap[g]? = some (.cells cur e (0, 0)) := by
  rcases h.2 with ⟨hn, _⟩ | ⟨g', cap', cur, hv, hbg, hh, rest⟩
  · left; rw [hn]; rfl
  · right; exact ⟨g', cur, by rw [hv]; rfl, hbg, hh⟩

/-- Two blocks of different element types are two. -/
theorem blk_ne {w : World} {a b : Nat} {c d : Array Value} {s t : TypeId} {f f' : Nat × Nat} (ha : w.heap[a]? = some (.cells c s f)) (hb : w.heap[b]? = some (.cells d t f')) (h : s ≠ t) : a ≠ b := fun e => by
  subst e
  rw [ha] at hb
  exact h (by injection hb with h1; injection h1)

/-- Behind region 3: the run has one chunk more, an empty one. -/
structure New3 (base L n T : Nat) (vals : List Value) (own : Option Nat) (w wx : World) (og oc Bn : Nat) : Prop where
  outer : wx.ownsRow base 36 1 (.slice (some ⟨og, 0, none⟩) (n + 1) oc) (n + 1) (vals ++ [.slice (some ⟨Bn, 0, none⟩) 0 (newCap T)])
  row : wx.ownsRow base 35 7 (.slice (some ⟨Bn, 0, none⟩) 0 (newCap T)) 0 []
  lr : wx.heap[L]? = some (.cells (lrCells (.slice (some ⟨og, 0, none⟩) (n + 1) oc) T) 32 (0, 0))
  old : ∀ k, k < w.heap.size → k ≠ L → some k ≠ own → wx.heap[k]? = w.heap[k]?
  os : wx.os = w.os
  tape : wx.tape = w.tape
  output : wx.output = w.output
  size : w.heap.size < wx.heap.size
  fresh : w.heap.size ≤ Bn

theorem new3_of {base L n T ocap og oc : Nat} {vals : List Value} {ao : Option Addr} {W w2 : World} (hb : base ≤ W.heap.size) (hlr : W.heap[L]? = some (.cells (lrCells (.slice ao n ocap) T) 32 (0, 0))) (hout : W.ownsRow base 36 1 (.slice ao n ocap) n vals)
    (hown : w2.ownsRow base 36 1 (.slice (some ⟨og, 0, none⟩) (n + 1) oc) (n + 1) (vals ++ [.slice (some ⟨W.heap.size, 0, none⟩) 0 (newCap T)]))
    (hg : ((W.alloc (.cells (mkCells T) 35)).alloc (.cells #[.slice (some ⟨W.heap.size, 0, none⟩) 0 (newCap T)] 36)).drew.grownBy w2 (Value.slice ao n ocap).ownBlock) :
    New3 base L n T vals (Value.slice ao n ocap).ownBlock W (w2.setCell ⟨L, 9, none⟩ (.slice (some ⟨og, 0, none⟩) (n + 1) oc)) og oc W.heap.size := by
  have hLs : L < W.heap.size := (Array.getElem?_eq_some_iff.1 hlr).1
  have hne : ∀ k cur t f, W.heap[k]? = some (.cells cur t f) → t ≠ 36 → some k ≠ (Value.slice ao n ocap).ownBlock := by
    intro k cur t f hk ht e
    rcases ownBlock_form hout with h | ⟨g, cur', h, _, hh⟩
    · rw [h] at e; cases e
    · rw [h] at e
      have : k = g := by cases e; rfl
      subst this
      exact blk_ne hk hh ht rfl
  have hneW : some W.heap.size ≠ (Value.slice ao n ocap).ownBlock := by
    intro e
    rcases ownBlock_form hout with h | ⟨g, cur', h, _, hh⟩
    · rw [h] at e; cases e
    · rw [h] at e
      have : W.heap.size = g := by cases e; rfl
      have hlt := (Array.getElem?_eq_some_iff.1 hh).1
      omega
  have hold : ∀ k, k < W.heap.size → some k ≠ (Value.slice ao n ocap).ownBlock → w2.heap[k]? = W.heap[k]? := fun k hk hk2 =>
    (hg.block k (by simp; omega) hk2).trans ((Below.heap_alloc _ _ k (by simp; omega)).trans (Below.heap_alloc _ _ k hk))
  have hL2 : w2.heap[L]? = some (.cells (lrCells (.slice ao n ocap) T) 32 (0, 0)) := (hold L hLs (hne L _ _ _ hlr (by decide))).trans hlr
  have hB2 : w2.heap[W.heap.size]? = some (.cells (mkCells T) 35 (0, 0)) :=
    (hg.block _ (by simp; omega) hneW).trans ((Below.heap_alloc _ _ _ (by simp)).trans (heap_alloc_new W _))
  obtain ⟨_, cur, hog⟩ := ownsRow_block hown
  have hogL : og ≠ L := blk_ne hog hL2 (by decide)
  have hBL : W.heap.size ≠ L := by omega
  have hrow : w2.ownsRow base 35 7 (.slice (some ⟨W.heap.size, 0, none⟩) 0 (newCap T)) 0 [] := ownsRow_same (mk_owns T W base hb) (hB2.trans (heap_alloc_new W _).symm)
  have hsz := hg.size
  refine ⟨ownsRow_same hown (Below.heap_setCell _ _ _ _ hogL), ownsRow_same hrow (Below.heap_setCell _ _ _ _ hBL), ?_, fun k hk h1 h2 => (Below.heap_setCell _ _ _ _ h1).trans (hold k hk h2), hg.os, hg.tape, hg.output, ?_, Nat.le_refl _⟩
  · rw [heap_setCell_same w2 L 9 _ 32 _ hL2]; rfl
  · simp at hsz ⊢; omega

theorem new3_cell {base L n T ocap : Nat} {vals : List Value} {ao : Option Addr} {W w2 : World} (hb : base ≤ W.heap.size) (hlr : W.heap[L]? = some (.cells (lrCells (.slice ao n ocap) T) 32 (0, 0))) (hout : W.ownsRow base 36 1 (.slice ao n ocap) n vals)
    (hg : ((W.alloc (.cells (mkCells T) 35)).alloc (.cells #[.slice (some ⟨W.heap.size, 0, none⟩) 0 (newCap T)] 36)).drew.grownBy w2 (Value.slice ao n ocap).ownBlock) :
    w2.cell? ⟨L, 9, none⟩ = some (.slice ao n ocap) ∧ w2.frozen? ⟨L, 9, none⟩ = false := by
  have hLs : L < W.heap.size := (Array.getElem?_eq_some_iff.1 hlr).1
  have hne : some L ≠ (Value.slice ao n ocap).ownBlock := by
    intro e
    rcases ownBlock_form hout with h | ⟨g, cur', h, _, hh⟩
    · rw [h] at e; cases e
    · rw [h] at e
      have : L = g := by cases e; rfl
      subst this
      exact blk_ne hlr hh (by decide) rfl
  have h2 : w2.heap[L]? = W.heap[L]? := (hg.block L (by simp; omega) hne).trans ((Below.heap_alloc _ _ L (by simp; omega)).trans (Below.heap_alloc _ _ L hLs))
  have h3 := lr_facts (h2.trans hlr)
  exact ⟨h3.1.1, h3.2.1.1⟩

theorem grown_two {w W w1 : World} {o : Obj} {g : Nat} (hb : w.grownBy W none) (hg : (W.drew.alloc o).grownBy w1 (some g)) : w.grownBy w1 (some g) :=
  ⟨hg.os.trans hb.os, hg.tape.trans hb.tape, hg.output.trans hb.output, Nat.le_trans hb.size (Nat.le_trans (by simp) hg.size), fun k hk hne => (hg.block k (by have := hb.size; simp; omega) hne).trans ((Below.heap_alloc W.drew o k (by have := hb.size; simp; omega)).trans (hb.block k hk (by simp)))⟩

theorem new_at (W : World) (o : Obj) {b : Nat} (h : b = W.heap.size) : (W.alloc o).heap[b]? = some o := by subst h; exact heap_alloc_new W o

set_option maxRecDepth 100000 in
set_option maxHeartbeats 1600000 in
/-- There is no room: a new chunk. -/
theorem keep_new (base L : Nat) (nm : ByteArray) (ao : Option Addr) (n ocap T : Nat) (vals : List Value) (w : World) (hbL : base ≤ L) (hlr : w.heap[L]? = some (.cells (lrCells (.slice ao n ocap) T) 32 (0, 0)))
   (hout : w.ownsRow base 36 1 (.slice ao n ocap) n vals)
   (hfull : n = 0 ∨ ∃ c ob g cap, n = c + 1 ∧ ao = some ⟨ob, 0, none⟩ ∧ ob < w.heap.size ∧ cap < 100000 ∧ w.cell? ⟨ob, c, none⟩ = some (.slice (some ⟨g, 0, none⟩) cap cap))
   (hn : n < 100000) (hT : T < 5000000000) :
    Calls Yba.prog 5 #[.pointer (some ⟨L, 0, none⟩), .agg #[.string nm, .int .i64 0, .pointer none, .int .i64 0, .int .i64 0, .pointer none, .int .i64 0]] w fun e w' => e = .returned (.tuple #[]) ∧ ∃ og oc W1 wc w1, New3 base L n T vals (Value.slice ao n ocap).ownBlock W1 wc og oc W1.heap.size ∧ Below w.heap.size w W1 ∧ W1.heap.size = w.heap.size + 1 ∧
      w1.ownsRow base 35 7 (.slice (some ⟨W1.heap.size, 0, none⟩) 1 (newCap T)) 1 (tk nm) ∧ wc.grownBy w1 (some W1.heap.size) ∧
      w' = (w1.setCell ⟨og, n, none⟩ (.slice (some ⟨W1.heap.size, 0, none⟩) 1 (newCap T))).setCell ⟨L, 10, none⟩ (.int .i64 (T + 1)) := by
  obtain ⟨i0, hi, hz0, hz1, hz2⟩ := info_parts info35
  obtain ⟨j0, hj, hy0, hy1, hy2⟩ := info_parts info36
  obtain ⟨⟨hc9, hc10⟩, ⟨hf9, hf10⟩, hL⟩ := lr_facts hlr
  have Hlr := hide hlr
  have Hout := hide hout
  clear hlr hout
  go_enter Yba.func5, Yba.ntmps5
  go_upto_region 2 with fail
  go_cut [33] (fun v wx => v = .bool true ∧ ∃ k, wx = (w.alloc (.cells #[.string nm, .int .i64 0, .pointer none, .int .i64 0, .int .i64 0, .pointer none, .int .i64 0] 35)).drewN k)
  case first =>
    rcases hfull with rfl | ⟨c, ob, g, cap, rfl, rfl, hob, hcap, hlast⟩
    · have e1 : (((0 : Nat) : Int) == 0) = true := rfl
      go_quiet (fail)
      go_wp2_with fail
      go_meet
      case rel => exact ⟨rfl, _, rfl⟩
    · have e1 : (((c : Int) + 1) == 0) = false := by simp; omega
      go_quiet (fail)
      go_wp2_with fail
      go_meet
      case rel => exact ⟨by simp, _, rfl⟩
  case rest =>
    obtain ⟨rfl, k, rfl⟩ := hcut
    obtain ⟨W1, hW1⟩ : ∃ W1, W1 = (w.alloc (.cells #[.string nm, .int .i64 0, .pointer none, .int .i64 0, .int .i64 0, .pointer none, .int .i64 0] 35)).drewN k := ⟨_, rfl⟩
    have hz : W1.heap.size = w.heap.size + 1 := by rw [hW1]; simp
    have hb1 : Below w.heap.size w W1 := by rw [hW1]; exact ⟨rfl, rfl, rfl, by simp, fun k hk => Below.heap_alloc _ _ k hk⟩
    have t7 : W1.heap[w.heap.size]? = some (.cells #[.string nm, .int .i64 0, .pointer none, .int .i64 0, .int .i64 0, .pointer none, .int .i64 0] 35 (0, 0)) := by rw [hW1]; exact heap_alloc_new w _
    rw [← hW1]
    have Hz := hide hz
    have hlz : w.heap.size < W1.heap.size := by omega
    clear hW1 hz
    have c9 := (hb1.cell (p := ⟨L, 9, none⟩) hL).trans hc9
    have c10 := (hb1.cell (p := ⟨L, 10, none⟩) hL).trans hc10
    have f9 := (hb1.frozen (p := ⟨L, 9, none⟩) hL).trans hf9
    have f10 := (hb1.frozen (p := ⟨L, 10, none⟩) hL).trans hf10
    clear hc9 hc10 hf9 hf10 hfull
    go_upto_region 3 with fail
    have hmk := run_mk T
    have hg1 : w.grownBy W1 none := ⟨hb1.os, hb1.tape, hb1.output, hb1.size, fun k hk _ => hb1.block k hk⟩
    have hlr1 : W1.heap[L]? = some (.cells (lrCells (.slice ao n ocap) T) 32 (0, 0)) := (hb1.block L hL).trans (unhide Hlr)
    have hout1 : W1.ownsRow base 36 1 (.slice ao n ocap) n vals := (unhide Hout).kept hg1 (by cases (Value.slice ao n ocap).ownBlock <;> simp)
    have hLW : L < W1.heap.size := by omega
    have hbW : base ≤ W1.heap.size := by omega
    have c9a : ∀ o, (W1.alloc o).cell? ⟨L, 9, none⟩ = some (.slice ao n ocap) := fun o => (World.cell?_of_block (w := W1) (a := ⟨L, 9, none⟩) (Below.heap_alloc W1 o L hLW)).trans c9
    have c9b : ∀ o o', ((W1.alloc o).alloc o').cell? ⟨L, 9, none⟩ = some (.slice ao n ocap) := fun o o' => (World.cell?_of_block (w := W1.alloc o) (a := ⟨L, 9, none⟩) (Below.heap_alloc _ o' L (by simp; omega))).trans (c9a o)
    have Hlr1 := hide hlr1
    have Hout1 := hide hout1
    clear hlr1 hout1
    go_cut [] (fun wx => ∃ og oc, New3 base L n T vals (Value.slice ao n ocap).ownBlock W1 wx og oc W1.heap.size)
    case first =>
      go_region_law ((refine step_append_lies _ (by rfl) _ _ _ (by rfl) base 36 j0 _ 1 24 Yba.underlying30 hj hy0 hy1 hy2 rfl (by omega) (.slice ao n ocap) n vals (by rfl) ((((unhide Hout1).alloc _).alloc _).drew) ⟨W1.heap.size + 1, 0, none⟩ 1 1 [.slice (some ⟨W1.heap.size, 0, none⟩) 0 (newCap T)] (by rfl) (by rfl) (World.news_of_block (cs := #[.slice (some ⟨W1.heap.size, 0, none⟩) 0 (newCap T)]) (t := 36) (fr := (0, 0)) (new_at (W1.alloc (.cells (mkCells T) 35)) _ (by simp))) (by simp [Value.oneCell']) (by omega) (by unfold maxLen; omega) (by omega) (by simp; omega) (W1.heap.size + 2) (by simp) ?_; intro og oc w2 hown2 hgrow2 hat2 hlt2; have hN := new3_of hbW (unhide Hlr1) (unhide Hout1) hown2 hgrow2; obtain ⟨hcw, hfw⟩ := new3_cell hbW (unhide Hlr1) (unhide Hout1) hgrow2; have HN := hide hN; clear hN hown2 hgrow2 hat2))
      all_goals go_wp2_with fail
      all_goals
        go_meet
        case rel => exact ⟨_, _, unhide HN⟩
    case rest =>
      obtain ⟨og, oc, hN⟩ := hcut
      clear c9 c10 f9 f10 c9a c9b hmk
      obtain ⟨⟨c9, c10⟩, ⟨f9, f10⟩, hLc⟩ := lr_facts hN.lr
      obtain ⟨_, curo, hog⟩ := ownsRow_block hN.outer
      obtain ⟨_, curb, hBn⟩ := ownsRow_block hN.row
      have hvl : vals.length = n := by have := (unhide Hout1).1; omega
      have cl : wc.cell? ⟨og, n, none⟩ = some (.slice (some ⟨W1.heap.size, 0, none⟩) 0 (newCap T)) := by
        rw [hN.outer.cellAt n (by omega), List.getElem?_append_right (by omega)]; simp [hvl]
      have fl : wc.frozen? ⟨og, n, none⟩ = false := by simp [World.frozen?, hog]
      have hogc : og < wc.heap.size := (Array.getElem?_eq_some_iff.1 hog).1
      have hBnc : W1.heap.size < wc.heap.size := hN.size
      have hogB : og ≠ W1.heap.size := blk_ne hog hBn (by decide)
      have hogL : og ≠ L := blk_ne hog hN.lr (by decide)
      have tbox : wc.heap[w.heap.size]? = some (.cells #[.string nm, .int .i64 0, .pointer none, .int .i64 0, .int .i64 0, .pointer none, .int .i64 0] 35 (0, 0)) := by
        refine (hN.old w.heap.size hlz (by omega) ?_).trans t7
        intro e
        rcases ownBlock_form (unhide Hout1) with h | ⟨g, cur', h, _, hh⟩
        · rw [h] at e; cases e
        · rw [h] at e
          have : w.heap.size = g := by cases e; rfl
          subst this
          exact blk_ne t7 hh (by decide) rfl
      obtain ⟨t0, t1, t2, t3, t4, t5, t6⟩ := seven tbox
      have hwc : w.heap.size < wc.heap.size := by omega
      have Hrow := hide hN.row
      have HN := hide hN
      have HBn := hide hBn
      have agB : some og ≠ some W1.heap.size := fun e => hogB (by cases e; rfl)
      have agL : some L ≠ some W1.heap.size := fun e => by have : L = W1.heap.size := (by cases e; rfl); omega
      clear hN hBn hog tbox t7 Hlr Hout hlz
      have hC := newCap_ge T
      have hC2 := newCap_le T
      go_wp2_with fail
      go_quiet (fail)
      obtain ⟨W2, hW2⟩ : ∃ W2, W2 = wc.drewN nq := ⟨_, rfl⟩
      have e2 : ∀ k : Nat, W2.heap[k]? = wc.heap[k]? := fun k => by rw [hW2]; rfl
      have hz2' : W2.heap.size = wc.heap.size := by rw [hW2]; rfl
      have hgw : wc.grownBy W2 none := by rw [hW2]; exact ⟨rfl, rfl, rfl, Nat.le_refl _, fun _ _ _ => rfl⟩
      rw [← hW2]
      clear hW2
      have c10' : W2.cell? ⟨L, 10, none⟩ = some (.int .i64 T) := (World.cell?_of_block (a := ⟨L, 10, none⟩) (e2 L)).trans c10
      have f10' : W2.frozen? ⟨L, 10, none⟩ = false := (World.frozen?_of_block (a := ⟨L, 10, none⟩) (e2 L)).trans f10
      have cl2 : W2.cell? ⟨og, n, none⟩ = some (.slice (some ⟨W1.heap.size, 0, none⟩) 0 (newCap T)) := (World.cell?_of_block (a := ⟨og, n, none⟩) (e2 og)).trans cl
      have fl2 : W2.frozen? ⟨og, n, none⟩ = false := (World.frozen?_of_block (a := ⟨og, n, none⟩) (e2 og)).trans fl
      have s0 := (World.cell?_of_block (a := ⟨w.heap.size, 0, none⟩) (e2 w.heap.size)).trans t0
      have s1 := (World.cell?_of_block (a := ⟨w.heap.size, 1, none⟩) (e2 w.heap.size)).trans t1
      have s2 := (World.cell?_of_block (a := ⟨w.heap.size, 2, none⟩) (e2 w.heap.size)).trans t2
      have s3 := (World.cell?_of_block (a := ⟨w.heap.size, 3, none⟩) (e2 w.heap.size)).trans t3
      have s4 := (World.cell?_of_block (a := ⟨w.heap.size, 4, none⟩) (e2 w.heap.size)).trans t4
      have s5 := (World.cell?_of_block (a := ⟨w.heap.size, 5, none⟩) (e2 w.heap.size)).trans t5
      have s6 := (World.cell?_of_block (a := ⟨w.heap.size, 6, none⟩) (e2 w.heap.size)).trans t6
      have Hrow2 := hide (ownsRow_same (unhide Hrow) (e2 W1.heap.size))
      have hogc2 : og < W2.heap.size := by omega
      have hLc2 : L < W2.heap.size := by omega
      have Hgw := hide hgw
      clear c9 c10 f9 f10 cl fl t0 t1 t2 t3 t4 t5 t6 Hrow hz2' e2 hgw
      have cl' : ∀ o, (W2.alloc o).cell? ⟨og, n, none⟩ = some (.slice (some ⟨W1.heap.size, 0, none⟩) 0 (newCap T)) := fun o => (World.cell?_of_block (w := W2) (a := ⟨og, n, none⟩) (Below.heap_alloc W2 o og hogc2)).trans cl2
      go_wp2_with fail
      go_region_law ((refine step_append_fits (by rfl) _ _ _ (by rfl) base 35 i0 7 Yba.underlying36 hi hz1 W1.heap.size 0 (newCap T) [] (by rfl) (((unhide Hrow2).alloc _).drew) ⟨W2.heap.size, 0, none⟩ 1 1 (tk nm) (by rfl) (by rfl) (World.news_of_block (cs := #[.string nm, .int .i64 0, .pointer none, .int .i64 0, .int .i64 0, .pointer none, .int .i64 0]) (t := 35) (fr := (0, 0)) (heap_alloc_new W2 _)) (by simp [tk, Value.oneCell']) (by omega) ?_; intro w1 hown1 hgrow; have hfw : w1.frozen? ⟨og, n, none⟩ = false := frozen_grown (n := 1) hgrow agB hogc2 fl2; have hcw : w1.cell? ⟨og, n, none⟩ = some (.slice (some ⟨W1.heap.size, 0, none⟩) 0 (newCap T)) := cell_grown (n := 1) hgrow agB hogc2 cl2; have hc10w : w1.cell? ⟨L, 10, none⟩ = some (.int .i64 T) := cell_grown (n := 1) hgrow agL hLc2 c10'; have hf10w : w1.frozen? ⟨L, 10, none⟩ = false := frozen_grown (n := 1) hgrow agL hLc2 f10'))
      all_goals
        have hgr := grown_two (unhide Hgw) hgrow
        go_wp2_with fail
        go_end0
        exact ⟨rfl, og, oc, W1, wc, w1, unhide HN, hb1, unhide Hz, hown1, hgr, rfl⟩

end Go.Proofs.Ybulkbsmi
