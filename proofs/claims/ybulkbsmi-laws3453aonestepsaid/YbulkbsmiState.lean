/-
  Seat b3453a: a LiquidationRun's chunks as a list, and what keepTaker makes of it.
-/
import Derived.Test.YbulkbsmiKeepNew
namespace Go.Proofs.Ybulkbsmi
open Go.RowKit
set_option linter.unusedVariables false

/-- A chunk: its block, length, capacity, and the names of its takers. -/
structure Ch where
  g : Nat
  len : Nat
  cap : Nat
  nm : Nat → ByteArray

def flatRow (nm : Nat → ByteArray) (n : Nat) : List Value := (List.range n).flatMap fun j => tk (nm j)
theorem flatRow_succ (nm : Nat → ByteArray) (n : Nat) : flatRow nm (n + 1) = flatRow nm n ++ tk (nm n) := by simp [flatRow, List.range_succ, List.flatMap_append]
theorem flatRow_congr (a b : Nat → ByteArray) : ∀ n, (∀ j, j < n → a j = b j) → flatRow a n = flatRow b n
  | 0, _ => rfl
  | n + 1, h => by rw [flatRow_succ, flatRow_succ, flatRow_congr a b n (fun j hj => h j (by omega)), h n (by omega)]

namespace Ch
def val (ch : Ch) : Value := .slice (some ⟨ch.g, 0, none⟩) ch.len ch.cap
def row (ch : Ch) : List Value := flatRow ch.nm ch.len
def add (ch : Ch) (nm : ByteArray) : Ch := ⟨ch.g, ch.len + 1, ch.cap, fun j => if j = ch.len then nm else ch.nm j⟩
theorem add_row (ch : Ch) (nm : ByteArray) : (ch.add nm).row = ch.row ++ tk nm := by
  show flatRow _ (ch.len + 1) = _
  rw [flatRow_succ, flatRow_congr _ ch.nm ch.len (fun j hj => by simp only [add]; rw [if_neg (by omega)])]
  simp [add, row]
end Ch

/-- The run in block L holds the chunks chs, and 'taken' is T. -/
structure LR (base : Nat) (w : World) (L : Nat) (tv : Value) (chs : List Ch) (T : Nat) : Prop where
  lr : w.heap[L]? = some (.cells (lrCells tv T) 32 (0, 0))
  hbL : base ≤ L
  outer : w.ownsRow base 36 1 tv chs.length (chs.map Ch.val)
  rows : ∀ ch ∈ chs, w.ownsRow base 35 7 ch.val ch.len ch.row
  apart : (chs.map Ch.g).Nodup

/-- What keepTaker makes of the chunks. -/
def Next (chs : List Ch) (T : Nat) (nm : ByteArray) (chs' : List Ch) : Prop :=
  (∃ pre ch, chs = pre ++ [ch] ∧ ch.len < ch.cap ∧ chs' = pre ++ [ch.add nm]) ∨
  ((chs = [] ∨ ∃ pre ch, chs = pre ++ [ch] ∧ ch.len = ch.cap) ∧ ∃ g, chs' = chs ++ [⟨g, 1, newCap T, fun _ => nm⟩])

theorem set_last {α : Type} (l : List α) (a b : α) : (l ++ [a]).set l.length b = l ++ [b] := by simp

theorem lr_taken {tv : Value} {T : Nat} : (lrCells tv T).setIfInBounds 10 (.int .i64 ((T : Int) + 1)) = lrCells tv (T + 1) := by
  simp [lrCells]

theorem LR.room {base L : Nat} {w w1 : World} {tv : Value} {pre : List Ch} {ch : Ch} {T : Nat} {nm : ByteArray} {ob ocap : Nat} (h : LR base w L tv (pre ++ [ch]) T) (htv : tv = .slice (some ⟨ob, 0, none⟩) (pre.length + 1) ocap)
    (hown : w1.ownsRow base 35 7 (.slice (some ⟨ch.g, 0, none⟩) (ch.len + 1) ch.cap) (ch.len + 1) (ch.row ++ tk nm)) (hg : w.grownBy w1 (some ch.g)) :
    LR base ((w1.setCell ⟨ob, pre.length, none⟩ (.slice (some ⟨ch.g, 0, none⟩) (ch.len + 1) ch.cap)).setCell ⟨L, 10, none⟩ (.int .i64 ((T : Int) + 1))) L tv (pre ++ [ch.add nm]) (T + 1) ∧
      Below base w ((w1.setCell ⟨ob, pre.length, none⟩ (.slice (some ⟨ch.g, 0, none⟩) (ch.len + 1) ch.cap)).setCell ⟨L, 10, none⟩ (.int .i64 ((T : Int) + 1))) := by
  subst htv
  have hout : w.ownsRow base 36 1 (.slice (some ⟨ob, 0, none⟩) (pre.length + 1) ocap) (pre.length + 1) ((pre ++ [ch]).map Ch.val) := by simpa using h.outer
  obtain ⟨hbo, curo, hob⟩ := ownsRow_block hout
  have hrow : w.ownsRow base 35 7 (.slice (some ⟨ch.g, 0, none⟩) ch.len ch.cap) ch.len ch.row := h.rows ch (by simp)
  obtain ⟨hbg, curg, hcg⟩ := ownsRow_block hrow
  have hLo : L ≠ ob := blk_ne h.lr hob (by decide)
  have hLg : L ≠ ch.g := blk_ne h.lr hcg (by decide)
  have hog : ob ≠ ch.g := blk_ne hob hcg (by decide)
  have hsame : ∀ k, k < w.heap.size → k ≠ ch.g → w1.heap[k]? = w.heap[k]? := fun k hk hne => hg.block k hk (fun e => hne (by cases e; rfl))
  have hLs : L < w.heap.size := (Array.getElem?_eq_some_iff.1 h.lr).1
  have hos : ob < w.heap.size := (Array.getElem?_eq_some_iff.1 hob).1
  have hL1 := (hsame L hLs hLg).trans h.lr
  have ho1 := ownsRow_same hout (hsame ob hos hog)
  obtain ⟨ho2, hg2⟩ := ho1.stored pre.length (.slice (some ⟨ch.g, 0, none⟩) (ch.len + 1) ch.cap)
  refine ⟨⟨?_, h.hbL, ?_, ?_, ?_⟩, ?_⟩
  · rw [heap_setCell_same _ L 10 _ 32 _ ((Below.heap_setCell _ _ _ _ hLo).trans hL1), lr_taken]
  · have e : ((pre ++ [ch]).map Ch.val).set pre.length (.slice (some ⟨ch.g, 0, none⟩) (ch.len + 1) ch.cap) = (pre ++ [ch.add nm]).map Ch.val := by
      simp [Ch.val, Ch.add]
    rw [e] at ho2
    have := ownsRow_same ho2 (w' := (w1.setCell ⟨ob, pre.length, none⟩ (.slice (some ⟨ch.g, 0, none⟩) (ch.len + 1) ch.cap)).setCell ⟨L, 10, none⟩ (.int .i64 ((T : Int) + 1))) (Below.heap_setCell _ _ _ _ (Ne.symm hLo))
    simpa using this
  · intro c hc
    rcases List.mem_append.1 hc with hc | hc
    · have hr : w.ownsRow base 35 7 (.slice (some ⟨c.g, 0, none⟩) c.len c.cap) c.len c.row := h.rows c (by simp [hc])
      obtain ⟨_, curc, hcc⟩ := ownsRow_block hr
      have hcs : c.g < w.heap.size := (Array.getElem?_eq_some_iff.1 hcc).1
      have hne : c.g ≠ ch.g := by
        have := h.apart
        rw [List.map_append, List.nodup_append] at this
        exact this.2.2 c.g (List.mem_map.2 ⟨c, hc, rfl⟩) ch.g (by simp)
      exact ownsRow_same hr ((Below.heap_setCell _ _ _ _ (blk_ne hcc h.lr (by decide))).trans ((Below.heap_setCell _ _ _ _ (blk_ne hcc hob (by decide))).trans (hsame c.g hcs hne)))
    · have hce : c = ch.add nm := by simpa using hc
      subst hce
      rw [Ch.add_row]
      exact ownsRow_same hown ((Below.heap_setCell _ _ _ _ (Ne.symm hLg)).trans (Below.heap_setCell _ _ _ _ (Ne.symm hog)))
  · have := h.apart
    simpa [Ch.add] using this
  · have hb1 : Below base w w1 := (Below.refl base w).grown hg (by have := h.hbL; omega) (fun k e => by cases e; exact hbg)
    exact (hb1.setCell hbo _).setCell h.hbL _

theorem LR.more {base L : Nat} {w W1 wc w1 : World} {ao : Option Addr} {ocap : Nat} {chs : List Ch} {T : Nat} {nm : ByteArray} {og oc : Nat} (h : LR base w L (.slice ao chs.length ocap) chs T)
    (hN : New3 base L chs.length T (chs.map Ch.val) (Value.slice ao chs.length ocap).ownBlock W1 wc og oc W1.heap.size) (hb : Below w.heap.size w W1) (hz : W1.heap.size = w.heap.size + 1)
    (hown : w1.ownsRow base 35 7 (.slice (some ⟨W1.heap.size, 0, none⟩) 1 (newCap T)) 1 (tk nm)) (hg : wc.grownBy w1 (some W1.heap.size)) :
    LR base ((w1.setCell ⟨og, chs.length, none⟩ (.slice (some ⟨W1.heap.size, 0, none⟩) 1 (newCap T))).setCell ⟨L, 10, none⟩ (.int .i64 ((T : Int) + 1))) L (.slice (some ⟨og, 0, none⟩) (chs.length + 1) oc) (chs ++ [⟨W1.heap.size, 1, newCap T, fun _ => nm⟩]) (T + 1) ∧
      Below base w ((w1.setCell ⟨og, chs.length, none⟩ (.slice (some ⟨W1.heap.size, 0, none⟩) 1 (newCap T))).setCell ⟨L, 10, none⟩ (.int .i64 ((T : Int) + 1))) := by
  obtain ⟨hbo, curo, hog⟩ := ownsRow_block hN.outer
  obtain ⟨hbB, curB, hBn⟩ := ownsRow_block hN.row
  have hLs : L < w.heap.size := (Array.getElem?_eq_some_iff.1 h.lr).1
  have hLB : L ≠ W1.heap.size := by omega
  have hoB : og ≠ W1.heap.size := blk_ne hog hBn (by decide)
  have hLo : L ≠ og := blk_ne hN.lr hog (by decide)
  have hsame : ∀ k, k < wc.heap.size → k ≠ W1.heap.size → w1.heap[k]? = wc.heap[k]? := fun k hk hne => hg.block k hk (fun e => hne (by cases e; rfl))
  have hos : og < wc.heap.size := (Array.getElem?_eq_some_iff.1 hog).1
  have hLc : L < wc.heap.size := (Array.getElem?_eq_some_iff.1 hN.lr).1
  have hL1 := (hsame L hLc hLB).trans hN.lr
  have ho1 := ownsRow_same hN.outer (hsame og hos hoB)
  obtain ⟨ho2, hg2⟩ := ho1.stored chs.length (.slice (some ⟨W1.heap.size, 0, none⟩) 1 (newCap T))
  have hown0 : ∀ k cur t f, w.heap[k]? = some (.cells cur t f) → t ≠ 36 → some k ≠ (Value.slice ao chs.length ocap).ownBlock := by
    intro k cur t f hk ht e
    rcases ownBlock_form h.outer with h' | ⟨g, cur', h', _, hh⟩
    · rw [h'] at e; cases e
    · rw [h'] at e
      have : k = g := by cases e; rfl
      subst this
      exact blk_ne hk hh ht rfl
  refine ⟨⟨?_, h.hbL, ?_, ?_, ?_⟩, ?_⟩
  · rw [heap_setCell_same _ L 10 _ 32 _ ((Below.heap_setCell _ _ _ _ hLo).trans hL1), lr_taken]
  · have e : (chs.map Ch.val ++ [Value.slice (some ⟨W1.heap.size, 0, none⟩) 0 (newCap T)]).set chs.length (Value.slice (some ⟨W1.heap.size, 0, none⟩) 1 (newCap T)) = (chs ++ [(⟨W1.heap.size, 1, newCap T, fun _ => nm⟩ : Ch)]).map Ch.val := by
      have := set_last (chs.map Ch.val) (Value.slice (some ⟨W1.heap.size, 0, none⟩) 0 (newCap T)) (Value.slice (some ⟨W1.heap.size, 0, none⟩) 1 (newCap T))
      simp only [List.length_map] at this
      rw [this]; simp [Ch.val]
    rw [e] at ho2
    have := ownsRow_same ho2 (w' := (w1.setCell ⟨og, chs.length, none⟩ (.slice (some ⟨W1.heap.size, 0, none⟩) 1 (newCap T))).setCell ⟨L, 10, none⟩ (.int .i64 ((T : Int) + 1))) (Below.heap_setCell _ _ _ _ (Ne.symm hLo))
    simpa using this
  · intro c hc
    rcases List.mem_append.1 hc with hc | hc
    · have hr : w.ownsRow base 35 7 (.slice (some ⟨c.g, 0, none⟩) c.len c.cap) c.len c.row := h.rows c hc
      obtain ⟨_, curc, hcc⟩ := ownsRow_block hr
      have hcs : c.g < w.heap.size := (Array.getElem?_eq_some_iff.1 hcc).1
      have hcL : c.g ≠ L := blk_ne hcc h.lr (by decide)
      have hwc : wc.heap[c.g]? = w.heap[c.g]? := (hN.old c.g (by omega) hcL (hown0 c.g _ _ _ hcc (by decide))).trans (hb.block c.g hcs)
      have hco : c.g ≠ og := blk_ne (hwc.trans hcc) hog (by decide)
      exact ownsRow_same hr ((Below.heap_setCell _ _ _ _ hcL).trans ((Below.heap_setCell _ _ _ _ hco).trans ((hsame c.g (by have := hN.size; omega) (by omega)).trans hwc)))
    · have hce : c = ⟨W1.heap.size, 1, newCap T, fun _ => nm⟩ := by simpa using hc
      subst hce
      have hr : Ch.row ⟨W1.heap.size, 1, newCap T, fun _ => nm⟩ = tk nm := by simp [Ch.row, flatRow, List.range_succ]
      rw [hr]
      exact ownsRow_same hown ((Below.heap_setCell _ _ _ _ (Ne.symm hLB)).trans (Below.heap_setCell _ _ _ _ (Ne.symm hoB)))
  · rw [List.map_append, List.nodup_append]
    refine ⟨h.apart, by simp, fun a ha b hb' => ?_⟩
    obtain ⟨c, hc, rfl⟩ := List.mem_map.1 ha
    have hr : w.ownsRow base 35 7 (.slice (some ⟨c.g, 0, none⟩) c.len c.cap) c.len c.row := h.rows c hc
    obtain ⟨_, curc, hcc⟩ := ownsRow_block hr
    have hcs : c.g < w.heap.size := (Array.getElem?_eq_some_iff.1 hcc).1
    have : b = W1.heap.size := by simpa using hb'
    omega
  · have hbL := h.hbL
    have hbc : Below base w wc := ⟨hN.os.trans hb.os, hN.tape.trans hb.tape, hN.output.trans hb.output, by have := hN.size; omega, fun k hk => by
      refine (hN.old k (by omega) (by omega) ?_).trans (hb.block k (by omega))
      intro e
      rcases ownBlock_form h.outer with h' | ⟨g, cur', h', hbg, hh⟩
      · rw [h'] at e; cases e
      · rw [h'] at e
        have : k = g := by cases e; rfl
        omega⟩
    have hb1 : Below base w w1 := hbc.grown hg (by have := hN.size; omega) (fun k e => by cases e; omega)
    exact (hb1.setCell hbo _).setCell h.hbL _

/-- keepTaker, whatever the chunks. -/
theorem keep_any (base L : Nat) (nm : ByteArray) (tv : Value) (chs : List Ch) (T : Nat) (w : World) (h : LR base w L tv chs T) (hT : T < 5000000000) (hn : chs.length < 100000) (hcap : ∀ ch ∈ chs, ch.cap < 100000) :
    Calls Yba.prog 5 #[.pointer (some ⟨L, 0, none⟩), .agg #[.string nm, .int .i64 0, .pointer none, .int .i64 0, .int .i64 0, .pointer none, .int .i64 0]] w fun e w' =>
      e = .returned (.tuple #[]) ∧ ∃ tv' chs', LR base w' L tv' chs' (T + 1) ∧ Next chs T nm chs' ∧ Below base w w' := by
  have hLs : L < w.heap.size := (Array.getElem?_eq_some_iff.1 h.lr).1
  obtain ⟨⟨hc9, hc10⟩, ⟨hf9, hf10⟩, hL⟩ := lr_facts h.lr
  have hform : ∃ ao ocap, tv = .slice ao chs.length ocap := by
    rcases h.outer.2 with ⟨e, h0⟩ | ⟨g, cap, cur, e, _⟩
    · exact ⟨none, 0, by rw [e, h0]⟩
    · exact ⟨_, cap, e⟩
  obtain ⟨ao, ocap, rfl⟩ := hform
  have newOne : (chs.length = 0 ∨ ∃ c ob g cap, chs.length = c + 1 ∧ ao = some ⟨ob, 0, none⟩ ∧ ob < w.heap.size ∧ cap < 100000 ∧ w.cell? ⟨ob, c, none⟩ = some (.slice (some ⟨g, 0, none⟩) cap cap)) → (chs = [] ∨ ∃ pre ch, chs = pre ++ [ch] ∧ ch.len = ch.cap) →
      Calls Yba.prog 5 #[.pointer (some ⟨L, 0, none⟩), .agg #[.string nm, .int .i64 0, .pointer none, .int .i64 0, .int .i64 0, .pointer none, .int .i64 0]] w fun e w' =>
        e = .returned (.tuple #[]) ∧ ∃ tv' chs', LR base w' L tv' chs' (T + 1) ∧ Next chs T nm chs' ∧ Below base w w' := fun hf hx => by
    refine (keep_new base L nm ao chs.length ocap T (chs.map Ch.val) w h.hbL h.lr h.outer hf hn hT).mono ?_
    rintro e w' ⟨rfl, og, oc, W1, wc, w1, hN, hb, hz, hown, hg, rfl⟩
    have hm := h.more hN hb hz hown hg
    exact ⟨rfl, _, _, hm.1, .inr ⟨hx, _, rfl⟩, hm.2⟩
  rcases List.eq_nil_or_concat chs with rfl | ⟨pre, ch, hch⟩
  · exact newOne (.inl rfl) (.inl rfl)
  · have hch' : chs = pre ++ [ch] := by simpa using hch
    subst hch'
    have hrow : w.ownsRow base 35 7 (.slice (some ⟨ch.g, 0, none⟩) ch.len ch.cap) ch.len ch.row := h.rows ch (by simp)
    have hle : ch.len ≤ ch.cap := by
      rcases hrow.2 with ⟨e, _⟩ | ⟨g', cap', cur, e, _, _, hlc, _⟩
      · cases e
      · have : ch.cap = cap' := (show ch.g = g' ∧ ch.cap = cap' by simpa using e).2
        omega
    obtain ⟨ob, rfl⟩ : ∃ ob, ao = some ⟨ob, 0, none⟩ := by
      rcases h.outer.2 with ⟨e, h0⟩ | ⟨g, cap, cur, e, _⟩
      · simp at h0
      · exact ⟨g, by injection e⟩
    have hlen : (pre ++ [ch]).length = pre.length + 1 := by simp
    have hout := h.outer
    obtain ⟨hbo, curo, hob⟩ := ownsRow_block hout
    have hos : ob < w.heap.size := (Array.getElem?_eq_some_iff.1 hob).1
    have hlast : w.cell? ⟨ob, pre.length, none⟩ = some (.slice (some ⟨ch.g, 0, none⟩) ch.len ch.cap) := by
      rw [hout.cellAt pre.length (by omega)]
      simp [Ch.val]
    by_cases hfl : ch.len < ch.cap
    · obtain ⟨hbg, curg, hcg⟩ := ownsRow_block hrow
      have hc9' : w.cell? ⟨L, 9, none⟩ = some (.slice (some ⟨ob, 0, none⟩) (pre.length + 1) ocap) := by rw [← hlen]; exact hc9
      refine (keep_room base L nm ob pre.length ocap ch.g ch.len ch.cap T ch.row w hL hos (blk_ne hob h.lr (by decide)) (blk_ne hcg hob (by decide)) (blk_ne hcg h.lr (by decide)) hc9' hc10 hf10 hlast (by simp [World.frozen?, hob]) hrow hfl (by omega) (hcap ch (by simp)) hT).mono ?_
      rintro e w' ⟨rfl, w1, hown, hg, rfl⟩
      have hm := h.room (by rw [hlen]) hown hg
      exact ⟨rfl, _, _, hm.1, .inl ⟨pre, ch, rfl, hfl, rfl⟩, hm.2⟩
    · have hfe : ch.len = ch.cap := by omega
      refine newOne (.inr ⟨pre.length, ob, ch.g, ch.cap, hlen, rfl, hos, hcap ch (by simp), ?_⟩) (.inr ⟨pre, ch, rfl, hfe⟩)
      rw [hlast, hfe]

end Go.Proofs.Ybulkbsmi
