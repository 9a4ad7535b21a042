/-
  Seat b3453a: the walk of '(*LiquidationRun).keepTaker' (function 5).
-/
import Derived.Test.YbulkbsmiRows
import Derived.WalkKit
import Derived.WalkSpells
import Derived.WalkLawsBesides
import Derived.Deep.QuietTactic
import Derived.BigQuiet
import Derived.Deep.RegionHeld3
import Derived.Deep.RegionLaw
import Derived.Deep.CutRange
import Derived.Deep.DeepCutAuto
import Derived.Deep.AppendLies
import Derived.Deep.DrawnRows
namespace Go.Proofs.Ybulkbsmi
open Go.RowKit
set_option linter.unusedVariables false
attribute [local go_sem ↓] Go.wp_at_zero Go.wp_at_succ

theorem hide {p : Prop} (h : p) : Hid p := h
theorem unhide {p : Prop} (h : Hid p) : p := h

theorem info36 : (Yba.prog.info? 36).map (fun i => (i.zero, i.size, i.bytes)) = some (some (.slice none 0 0), 1, 24) := by kernel_rfl
theorem info35 : (Yba.prog.info? 35).map (fun i => (i.zero, i.size, i.bytes)) = some (some (.agg #[.string ByteArray.empty, .int .i64 0, .pointer none, .int .i64 0, .int .i64 0, .pointer none, .int .i64 0]), 7, 64) := by kernel_rfl

/-- A taker's seven cells. -/
def tk (nm : ByteArray) : List Value := [.string nm, .int .i64 0, .pointer none, .int .i64 0, .int .i64 0, .pointer none, .int .i64 0]

theorem step_append_fits {P : Program} {ops : Array Oper} {o : Oper} {a : Act} {w : World} {K : Act → World → Prop} {Q : Exit → Act → World → Prop} {E : Prop} (hgd : o.guard = none) (s x : Operand) (t : TypeId)
    (ho : o.op = .call { callee := .builtin .append, args := #[s, x], argTypes := #[t, t] })
    (base : Nat) (e : TypeId) (i : TypeInfo) (size : Nat) (h1 : P.underlying t = some (.slice e)) (h2 : P.info? e = some i) (h4 : i.size = size)
    (g k cap : Nat) (xs : List Value) (hs : a.eval s = .slice (some ⟨g, 0, none⟩) k cap) (hown : w.ownsRow base e size (.slice (some ⟨g, 0, none⟩) k cap) k xs) (ad : Addr) (m c : Nat) (news : List Value) (hx : a.eval x = .slice (some ad) m c) (hn : news.length = m * size)
    (hc : ∀ j u, news[j]? = some u → w.cell? (ad.add j) = some u) (h1c : ∀ u ∈ news, u.oneCell' = true) (b1 : k + m ≤ cap)
    (h : ∀ w', w'.ownsRow base e size (.slice (some ⟨g, 0, none⟩) (k + m) cap) (k + m) (xs ++ news) → w.grownBy w' (some g) → K (a.put o.dst (.slice (some ⟨g, 0, none⟩) (k + m) cap)) w') :
    if Region.wanted o (yielded ops a.tmps) = true then Oper.wp P o a w K Q else E := by
  have hw : Region.wanted o (yielded ops a.tmps) = true := by simp [Region.wanted, hgd]
  rw [if_pos hw]
  obtain ⟨w', hrun, r1, r2⟩ := run_append_fits (P := P) w base t o.type e i size h1 h2 h4 g k cap xs hown ad m c news hn hc h1c b1
  unfold Oper.wp execOp
  simp only [ho, resolve, invoke, builtin, Sem.run_bind, Sem.run_pure, Result.andThen_ok, List.map_toArray, List.map_cons, List.map_nil, hs, hx, hrun]
  exact h w' r1 r2

theorem seven {w : World} {B : Nat} {a b c d e f g : Value} {t : TypeId} (h : w.heap[B]? = some (.cells #[a, b, c, d, e, f, g] t (0, 0))) :
    w.cell? ⟨B, 0, none⟩ = some a ∧ w.cell? ⟨B, 1, none⟩ = some b ∧ w.cell? ⟨B, 2, none⟩ = some c ∧ w.cell? ⟨B, 3, none⟩ = some d ∧ w.cell? ⟨B, 4, none⟩ = some e ∧ w.cell? ⟨B, 5, none⟩ = some f ∧ w.cell? ⟨B, 6, none⟩ = some g := by
  refine ⟨?_, ?_, ?_, ?_, ?_, ?_, ?_⟩ <;> simp [World.cell?, h]

/-- What is owned in a block that is as it was is owned still. -/
theorem ownsRow_below {w w' : World} {B base g n cap : Nat} {e : TypeId} {size : Nat} {xs : List Value} (h : w.ownsRow base e size (.slice (some ⟨g, 0, none⟩) n cap) n xs) (hg : g < B) (hb : Below B w w') : w'.ownsRow base e size (.slice (some ⟨g, 0, none⟩) n cap) n xs := by
  refine ⟨h.1, ?_⟩
  rcases h.2 with hn | ⟨g', cap', cur, hv, hbg, hh, rest⟩
  · exact .inl hn
  · have e : g = g' := (show g = g' ∧ cap = cap' by simpa using hv).1
    subst e
    exact .inr ⟨g, cap', cur, hv, hbg, (hb.block g hg).trans hh, rest⟩

theorem frozen_grown {W : World} {w1 : World} {n : Nat} {o : Obj} {g b k : Nat} (hg : ((W.drewN n).alloc o).grownBy w1 (some g)) (hne : some b ≠ some g) (hb : b < W.heap.size) (hf : W.frozen? ⟨b, k, none⟩ = false) : w1.frozen? ⟨b, k, none⟩ = false := by
  have h1 : w1.heap[b]? = W.heap[b]? := (hg.block b (by simp; omega) hne).trans (Below.heap_alloc (W.drewN n) o b hb)
  exact (World.frozen?_of_block (a := ⟨b, k, none⟩) h1).trans hf

theorem cell_grown {W : World} {w1 : World} {n : Nat} {o : Obj} {g b k : Nat} {v : Value} (hg : ((W.drewN n).alloc o).grownBy w1 (some g)) (hne : some b ≠ some g) (hb : b < W.heap.size) (hf : W.cell? ⟨b, k, none⟩ = some v) : w1.cell? ⟨b, k, none⟩ = some v := by
  have h1 : w1.heap[b]? = W.heap[b]? := (hg.block b (by simp; omega) hne).trans (Below.heap_alloc (W.drewN n) o b hb)
  exact (World.cell?_of_block (a := ⟨b, k, none⟩) h1).trans hf

theorem grown_from {w W w1 : World} {n : Nat} {o : Obj} {g : Nat} (hb : Below w.heap.size w W) (hg : ((W.drewN n).alloc o).grownBy w1 (some g)) : w.grownBy w1 (some g) :=
  ⟨hg.os.trans hb.os, hg.tape.trans hb.tape, hg.output.trans hb.output, Nat.le_trans hb.size (Nat.le_trans (by simp) hg.size), fun k hk hne => (hg.block k (by have := hb.size; simp; omega) hne).trans ((Below.heap_alloc (W.drewN n) o k (by have := hb.size; simp; omega)).trans (hb.block k hk))⟩

set_option maxRecDepth 100000 in
set_option maxHeartbeats 400000 in
/-- There is room in the last chunk. -/
theorem keep_room (base L : Nat) (nm : ByteArray) (ob c ocap g len cap T : Nat) (xs : List Value) (w : World) (hL : L < w.heap.size) (hob : ob < w.heap.size) (hoL : ob ≠ L) (hgo : g ≠ ob) (hgL : g ≠ L)
   (hc9 : w.cell? ⟨L, 9, none⟩ = some (.slice (some ⟨ob, 0, none⟩) (c + 1) ocap)) (hc10 : w.cell? ⟨L, 10, none⟩ = some (.int .i64 T)) (hf10 : w.frozen? ⟨L, 10, none⟩ = false)
   (hlast : w.cell? ⟨ob, c, none⟩ = some (.slice (some ⟨g, 0, none⟩) len cap)) (hflast : w.frozen? ⟨ob, c, none⟩ = false)
   (hrow : w.ownsRow base 35 7 (.slice (some ⟨g, 0, none⟩) len cap) len xs)
   (hlt : len < cap) (hc : c < 100000) (hcap : cap < 100000) (hT : T < 5000000000) :
    Calls Yba.prog 5 #[.pointer (some ⟨L, 0, none⟩), .agg #[.string nm, .int .i64 0, .pointer none, .int .i64 0, .int .i64 0, .pointer none, .int .i64 0]] w fun e w' => e = .returned (.tuple #[]) ∧ ∃ w1, w1.ownsRow base 35 7 (.slice (some ⟨g, 0, none⟩) (len + 1) cap) (len + 1) (xs ++ tk nm) ∧ w.grownBy w1 (some g) ∧
      w' = (w1.setCell ⟨ob, c, none⟩ (.slice (some ⟨g, 0, none⟩) (len + 1) cap)).setCell ⟨L, 10, none⟩ (.int .i64 (T + 1)) := by
  obtain ⟨i0, hi, hz0, hz1, hz2⟩ := info_parts info35
  have hgl : g < w.heap.size := by
    rcases hrow.2 with ⟨e, _⟩ | ⟨g', cap', cur, e, _, hb, _⟩
    · cases e
    · cases e; exact (Array.getElem?_eq_some_iff.1 hb).1
  have e1 : (((c : Int) + 1) == 0) = false := by simp; omega
  have e2 : ((len : Int) == (cap : Int)) = false := by simp; omega
  go_enter Yba.func5, Yba.ntmps5
  go_wp2_with fail
  go_quiet (fail)
  obtain ⟨W1, hW1⟩ : ∃ W1, W1 = (w.alloc (.cells #[.string nm, .int .i64 0, .pointer none, .int .i64 0, .int .i64 0, .pointer none, .int .i64 0] 35)).drewN nq := ⟨_, rfl⟩
  have hz : W1.heap.size = w.heap.size + 1 := by rw [hW1]; simp
  have hb1 : Below w.heap.size w W1 := by rw [hW1]; exact ⟨rfl, rfl, rfl, by simp, fun k hk => Below.heap_alloc _ _ k hk⟩
  have t7 : W1.heap[w.heap.size]? = some (.cells #[.string nm, .int .i64 0, .pointer none, .int .i64 0, .int .i64 0, .pointer none, .int .i64 0] 35 (0, 0)) := by rw [hW1]; exact heap_alloc_new w _
  rw [← hW1]
  have Hz := hide hz
  have hlz : w.heap.size < W1.heap.size := by omega
  clear hW1 hz
  have c9 := (hb1.cell (p := ⟨L, 9, none⟩) hL).trans hc9
  have c10 := (hb1.cell (p := ⟨L, 10, none⟩) hL).trans hc10
  have f10 := (hb1.frozen (p := ⟨L, 10, none⟩) hL).trans hf10
  have cl := (hb1.cell (p := ⟨ob, c, none⟩) hob).trans hlast
  have fl := (hb1.frozen (p := ⟨ob, c, none⟩) hob).trans hflast
  have hr1 : W1.ownsRow base 35 7 (.slice (some ⟨g, 0, none⟩) len cap) len xs := ownsRow_below hrow hgl hb1
  obtain ⟨t0, t1, t2, t3, t4, t5, t6⟩ := seven t7
  clear hc9 hc10 hf10 hlast hflast hrow
  go_wp2_with fail
  go_quiet (fail)
  have hobW : ob < W1.heap.size := by omega
  have hLW : L < W1.heap.size := by omega
  have hgW : g < W1.heap.size := by omega
  have cl' : ∀ n o, ((W1.drewN n).alloc o).cell? ⟨ob, c, none⟩ = some (.slice (some ⟨g, 0, none⟩) len cap) := fun n o => (World.cell?_of_block (w := W1) (a := ⟨ob, c, none⟩) (Below.heap_alloc (W1.drewN n) o ob hobW)).trans cl
  have ago : some ob ≠ some g := fun e => hgo (by cases e; rfl)
  have agL : some L ≠ some g := fun e => hgL (by cases e; rfl)
  have agn : some w.heap.size ≠ some g := fun e => by have : w.heap.size = g := (by cases e; rfl); omega
  go_wp2_with fail
  go_region_law ((refine step_append_fits (by rfl) _ _ _ (by rfl) base 35 i0 7 Yba.underlying36 hi hz1 g len cap xs (by rfl) ((hr1.alloc _).drew) ⟨W1.heap.size, 0, none⟩ 1 1 (tk nm) (by rfl) (by rfl) (World.news_of_block (cs := #[.string nm, .int .i64 0, .pointer none, .int .i64 0, .int .i64 0, .pointer none, .int .i64 0]) (t := 35) (fr := (0, 0)) (heap_alloc_new W1 _)) (by simp [tk, Value.oneCell']) (by omega) ?_; intro w1 hown1 hgrow; have hfw : w1.frozen? ⟨ob, c, none⟩ = false := frozen_grown hgrow ago (Nat.lt_of_lt_of_le hob hb1.size) fl; have hcw : w1.cell? ⟨ob, c, none⟩ = some (.slice (some ⟨g, 0, none⟩) len cap) := cell_grown hgrow ago (Nat.lt_of_lt_of_le hob hb1.size) cl; have hc10w : w1.cell? ⟨L, 10, none⟩ = some (.int .i64 T) := cell_grown hgrow agL hLW c10; have hf10w : w1.frozen? ⟨L, 10, none⟩ = false := frozen_grown hgrow agL hLW f10))
  all_goals
    have hgr := grown_from hb1 hgrow
    go_wp2_with fail
    go_end0
    exact ⟨rfl, w1, hown1, hgr, rfl⟩

end Go.Proofs.Ybulkbsmi
