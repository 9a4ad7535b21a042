/-
  Seat b3455aF: what Run (5) is handed, and what follows from it between two statements.
-/
import Derived.Test.YbulkbsnkFmtDyn
namespace Go.Proofs.YbulkbsnkFmt
open Go.RowKit
set_option linter.unusedVariables false

structure Inp (w : World) (b0 n len pcap : Nat) (pa : Option Addr) (P : Nat → Int) (rel : Nat → Bool) (X : Nat → Nat) (ST NB RB RV BV SA : Nat) (sv : Value) (S : Nat → Int) (stop : Int) (B : Nat → Int) : Prop where
  hl : len ≤ 1024
  hn : n ≤ 4
  A : ArgB w pa len P
  Ab : 0 < len → ∀ b, pa = some b → b.block < b0
  bw : b0 ≤ w.heap.size
  xs : ∀ i, i < n → w.heap[X i]? = some (.cells #[.pointer (some ⟨ST, 0, none⟩), .int .i64 i, .int .i64 0] 34 (0, 0))
  inj : ∀ i j, i < n → j < n → X i = X j → i = j
  xb : ∀ i, i < n → b0 ≤ X i
  st : w.heap[ST]? = some (.cells #[.slice pa len pcap, .int .i64 n, sv, .bool false] 28 (0, 0))
  nb : ∃ cs, w.heap[NB]? = some (.cells cs 36 (0, 0)) ∧ ∀ i, i < n → cs[i]? = some (.iface 32 (.pointer (some ⟨X i, 0, none⟩)))
  rb : ∃ cs, w.heap[RB]? = some (.cells cs 4 (0, 0)) ∧ ∀ i, i < n → cs[i]? = some (.bool (rel i))
  sv : sv = .slice none 0 0 ∨ ∃ SB c cs, sv = .slice (some ⟨SB, 0, none⟩) n c ∧ w.heap[SB]? = some (.cells cs 3 (0, 0)) ∧ ∀ i, i < n → cs[i]? = some (.int .i64 (S i))
  told : Told w RV BV SA w.heap.size 0 stop B (.slice none 0 0) (.slice none 0 0)
  rvb : b0 ≤ RV
  bvb : b0 ≤ BV

theorem heap_new (w : World) (o : Obj) : (w.alloc o).heap[w.heap.size]? = some o := by
  show (w.heap.push o)[w.heap.size]? = some o
  simp
theorem heap4 (w : World) (a b c d : Obj) : ((((w.alloc a).alloc b).alloc c).alloc d).drew.heap[w.heap.size]? = some a ∧ ((((w.alloc a).alloc b).alloc c).alloc d).drew.heap[w.heap.size + 1]? = some b ∧ ((((w.alloc a).alloc b).alloc c).alloc d).drew.heap[w.heap.size + 1 + 1]? = some c ∧ ((((w.alloc a).alloc b).alloc c).alloc d).drew.heap[w.heap.size + 1 + 1 + 1]? = some d ∧ Below w.heap.size w ((((w.alloc a).alloc b).alloc c).alloc d).drew := by
  have s1 := World.size_alloc w a
  have s2 := World.size_alloc (w.alloc a) b
  have s3 := World.size_alloc ((w.alloc a).alloc b) c
  refine ⟨?_, ?_, ?_, ?_, (((((Below.refl _ w).alloc (Nat.le_refl _) a).alloc (by omega) b).alloc (by omega) c).alloc (by omega) d).drew⟩
  · exact (Below.heap_alloc _ _ _ (by omega)).trans ((Below.heap_alloc _ _ _ (by omega)).trans ((Below.heap_alloc _ _ _ (by omega)).trans (heap_new w a)))
  · exact (Below.heap_alloc _ _ _ (by omega)).trans ((Below.heap_alloc _ _ _ (by omega)).trans (s1 ▸ heap_new (w.alloc a) b))
  · exact (Below.heap_alloc _ _ _ (by omega)).trans (s1 ▸ s2 ▸ heap_new ((w.alloc a).alloc b) c)
  · exact s1 ▸ s2 ▸ s3 ▸ heap_new (((w.alloc a).alloc b).alloc c) d

theorem heap2 (w : World) (a b : Obj) : ((w.alloc a).alloc b).heap[w.heap.size]? = some a ∧ ((w.alloc a).alloc b).heap[w.heap.size + 1]? = some b ∧ ∀ N, N ≤ w.heap.size → Below N w ((w.alloc a).alloc b) := by
  have s1 := World.size_alloc w a
  refine ⟨(Below.heap_alloc _ _ _ (by omega)).trans (heap_new w a), s1 ▸ heap_new (w.alloc a) b, fun N hN => ?_⟩
  exact ((Below.refl _ w).alloc hN a).alloc (by omega) b

def sumB (B : Nat → Int) : Nat → Int
  | 0 => 0
  | k + 1 => sumB B k + B k
theorem sumB_bd (B : Nat → Int) (hB : ∀ i, 0 ≤ B i ∧ B i ≤ 16000) : ∀ k, 0 ≤ sumB B k ∧ sumB B k ≤ 16000 * k
  | 0 => by simp [sumB]
  | k + 1 => by
    have := sumB_bd B hB k
    have := hB k
    simp only [sumB]
    omega

/-- How many rounds are run. -/
def wantN (hor stop : Int) : Nat := if 0 < hor then (if 1 ≤ stop ∧ stop < hor then stop.toNat else hor.toNat) else 0

theorem made_nil (n i : Nat) (hi : i < n) : (madeCells #[Value.slice none 0 0] n)[i]? = some (.slice none 0 0) := by
  simp [madeCells]
  exact ⟨i, by simp [hi], by rw [Nat.mod_one]; rfl⟩
theorem made_size (n : Nat) (v : Value) : (madeCells #[v] n).size = n := by simp [madeCells]

section
variable {w : World} {b0 n len pcap : Nat} {pa : Option Addr} {P : Nat → Int} {rel : Nat → Bool} {X : Nat → Nat} {ST NB RB RV BV SA : Nat} {sv : Value} {S : Nat → Int} {stop : Int} {B : Nat → Int}

theorem Inp.init (I : Inp w b0 n len pcap pa P rel X ST NB RB RV BV SA sv S stop B) {W : World} {RS RC RW A0 A1 : Nat} (hb : Below w.heap.size w W)
    (hre : W.heap[w.heap.size]? = some (.cells #[.int .i64 0, .int .i64 0] 40 (0, 0))) (hrs : W.heap[RS]? = some (.cells #[.int .i64 0, .int .i64 0] 40 (0, 0))) (hn : w.heap.size < RS)
    (hrc : W.heap[RC]? = some (.cells (madeCells #[.slice none 0 0] n) 47 (0, 0))) (hlc : w.heap.size ≤ RC)
    (hrw : W.heap[RW]? = some (.cells #[.slice (some ⟨A0, 0, none⟩) n n, .slice (some ⟨A1, 0, none⟩) n n] 45 (0, 0))) (h0 : W.heap[A0]? = some (.cells (madeCells #[.slice none 0 0] n) 46 (0, 0))) (h1 : W.heap[A1]? = some (.cells (madeCells #[.slice none 0 0] n) 46 (0, 0))) (hne : A0 ≠ A1) (hl0 : w.heap.size < A0) (hl1 : w.heap.size < A1) :
    Dyn w n ST RV BV SA RS RC RW (RC + 1) X (fun p => if p = 0 then A0 else A1) stop B W 0 0 0 (fun _ => 0) (fun _ _ => .slice none 0 0) := by
  have K : ∀ (b : Nat) (o : Obj), w.heap[b]? = some o → W.heap[b]? = w.heap[b]? := fun b o h => hb.block b (block_lt h)
  refine ⟨Fr.of_below hb, fun i hi => (K _ _ (I.xs i hi)).trans (I.xs i hi), ⟨_, _, I.told.keep fun b cs t h _ => K b _ h⟩, hrs, ⟨_, hrc, made_size _ _⟩, hrw, fun p hp => ?_, hne, fun p i hp hi => ⟨0, [], rfl, .inl ⟨rfl, rfl⟩⟩, fun p i p' i' g _ _ _ _ e => (by cases e), by omega, hlc, fun p hp => ?_, by omega, ?_, hre, by omega⟩
  · by_cases e : p = 0
    · simp only [if_pos e]
      exact ⟨_, h0, made_size _ _, fun i hi => made_nil n i hi⟩
    · simp only [if_neg e]
      exact ⟨_, h1, made_size _ _, fun i hi => made_nil n i hi⟩
  · by_cases e : p = 0
    · simp only [if_pos e]; omega
    · simp only [if_neg e]; omega
  · exact block_lt hrc

variable {RS RC RW bs : Nat} {A : Nat → Nat} {W : World} {m : Nat} {a b : Int} {st : Nat → Nat} {R : Nat → Nat → Value}

theorem Inp.not (I : Inp w b0 n len pcap pa P rel X ST NB RB RV BV SA sv S stop B) {x : Nat} {cs : Array Value} {t : TypeId} (h : w.heap[x]? = some (.cells cs t (0, 0))) (h1 : t ≠ 34) (h2 : t ≠ 26) (h3 : t ≠ 37) : ¬ Pp n RV BV X x := by
  rintro (⟨i, hi, e⟩ | e | e)
  · exact ty_ne h (I.xs i hi) h1 e
  · exact ty_ne h I.told.rv h2 e
  · exact ty_ne h I.told.bv h3 e
theorem Inp.same (I : Inp w b0 n len pcap pa P rel X ST NB RB RV BV SA sv S stop B) (f : Fr (Pp n RV BV X) w W) {x : Nat} {cs : Array Value} {t : TypeId} (h : w.heap[x]? = some (.cells cs t (0, 0))) (h1 : t ≠ 34) (h2 : t ≠ 26) (h3 : t ≠ 37) : W.heap[x]? = some (.cells cs t (0, 0)) :=
  (f.block x (block_lt h) (I.not h h1 h2 h3)).trans h
theorem Inp.argB (I : Inp w b0 n len pcap pa P rel X ST NB RB RV BV SA sv S stop B) (f : Fr (Pp n RV BV X) w W) : ArgB W pa len P := fun h0 =>
  I.A.below (I.Ab h0) (f.below I.bw fun x hx h => by
    rcases h with ⟨i, hi, e⟩ | e | e
    · have := I.xb i hi; omega
    · have := I.rvb; omega
    · have := I.bvb; omega) h0
theorem Inp.node (I : Inp w b0 n len pcap pa P rel X ST NB RB RV BV SA sv S stop B) (f : Fr (Pp n RV BV X) w W) {i : Nat} (hi : i < n) : W.cell? ⟨NB, i, none⟩ = some (.iface 32 (.pointer (some ⟨X i, 0, none⟩))) := by
  obtain ⟨cs, h, hc⟩ := I.nb
  simp only [World.cell?, I.same f h (by decide) (by decide) (by decide)]
  exact hc i hi
theorem Inp.relc (I : Inp w b0 n len pcap pa P rel X ST NB RB RV BV SA sv S stop B) (f : Fr (Pp n RV BV X) w W) {i : Nat} (hi : i < n) : W.cell? ⟨RB, i, none⟩ = some (.bool (rel i)) := by
  obtain ⟨cs, h, hc⟩ := I.rb
  simp only [World.cell?, I.same f h (by decide) (by decide) (by decide)]
  exact hc i hi
theorem Inp.start (I : Inp w b0 n len pcap pa P rel X ST NB RB RV BV SA sv S stop B) (f : Fr (Pp n RV BV X) w W) {i : Nat} (hi : i < n) : sv = .slice none 0 0 ∨ ∃ SB c, sv = .slice (some ⟨SB, 0, none⟩) n c ∧ W.cell? ⟨SB, i, none⟩ = some (.int .i64 (S i)) ∧ ∃ cs, W.heap[SB]? = some (.cells cs 3 (0, 0)) := by
  rcases I.sv with h | ⟨SB, c, cs, h1, h2, h3⟩
  · exact .inl h
  · refine .inr ⟨SB, c, h1, ?_, cs, I.same f h2 (by decide) (by decide) (by decide)⟩
    simp only [World.cell?, I.same f h2 (by decide) (by decide) (by decide)]
    exact h3 i hi

theorem Dyn.steps (d : Dyn w n ST RV BV SA RS RC RW bs X A stop B W m a b st R) {st' : Nat → Nat} (h : ∀ i, i < n → st i = st' i) : Dyn w n ST RV BV SA RS RC RW bs X A stop B W m a b st' R :=
  { d with xs := fun i hi => by rw [← h i hi]; exact d.xs i hi }

/-- The result is written. -/
theorem Dyn.finish (d : Dyn w n ST RV BV SA RS RC RW bs X A stop B W m a b st R) {w' : World} (f : Fr (fun x => x = w.heap.size) W w') : Fr (Pp n RV BV X) w w' ∧ (∀ i, i < n → w'.heap[X i]? = some (.cells #[.pointer (some ⟨ST, 0, none⟩), .int .i64 i, .int .i64 (st i)] 34 (0, 0))) ∧ ∃ v1 v2, Told w' RV BV SA w.heap.size m stop B v1 v2 := by
  have K : ∀ (x : Nat) (cs : Array Value) (t : TypeId), W.heap[x]? = some (.cells cs t (0, 0)) → t ≠ 40 → w'.heap[x]? = W.heap[x]? := fun x cs t h h1 => f.block x (block_lt h) (ty_ne h d.re h1)
  refine ⟨d.fr.out f fun b hb e => absurd hb (by omega), fun i hi => (K _ _ _ (d.xs i hi) (by decide)).trans (d.xs i hi), ?_⟩
  obtain ⟨v1, v2, h⟩ := d.told
  exact ⟨v1, v2, h.keep fun b cs t hb ht => K b cs t hb (by rcases ht with rfl | rfl | rfl | rfl <;> decide)⟩

/-- What the region of Step's call reads is as it was behind the call. -/
theorem Dyn.after (d : Dyn w n ST RV BV SA RS RC RW bs X A stop B W m a b st R) {i q : Nat} (hi : i < n) (hq : q < 2) {w' : World} (f : Fr (fun x => x = X i ∨ (R q i).ownBlock = some x) W w') :
    w'.cell? ⟨A q, i, none⟩ = W.cell? ⟨A q, i, none⟩ ∧ w'.cell? ⟨RS, 0, none⟩ = W.cell? ⟨RS, 0, none⟩ ∧ ∀ SB (cs : Array Value), W.heap[SB]? = some (.cells cs 3 (0, 0)) → w'.cell? ⟨SB, i, none⟩ = W.cell? ⟨SB, i, none⟩ := by
  have K : ∀ (x : Nat) (cs : Array Value) (t : TypeId), W.heap[x]? = some (.cells cs t (0, 0)) → t ≠ 34 → t ≠ 47 → w'.heap[x]? = W.heap[x]? := fun x cs t h h1 h2 => f.block x (block_lt h) fun e => by
    rcases e with e | e
    · exact ty_ne h (d.xs i hi) h1 e
    · obtain ⟨⟨cs', hc⟩, -⟩ := d.own47 hq hi e
      exact ty_ne h hc h2 rfl
  obtain ⟨C, hC, -⟩ := d.ar q hq
  exact ⟨World.cell?_of_block (a := ⟨A q, i, none⟩) (K _ _ _ hC (by decide) (by decide)), World.cell?_of_block (a := ⟨RS, 0, none⟩) (K _ _ _ d.rs (by decide) (by decide)), fun SB cs h => World.cell?_of_block (a := ⟨SB, i, none⟩) (K _ _ _ h (by decide) (by decide))⟩

/-- The call of Step. -/
theorem Inp.call (I : Inp w b0 n len pcap pa P rel X ST NB RB RV BV SA sv S stop B) (d : Dyn w n ST RV BV SA RS RC RW bs X A stop B W m a b st R) {i q k : Nat} (hi : i < n) (hq : q < 2) (hk : k + 1 ≤ 1000) (hst : st i = k)
    (hR : ∀ j, j < n → ∃ v, W.cell? ⟨RC, j, none⟩ = some v ∧ IsMsg W v (gotO len P j (k + 1) i) k i) {sf : Bool} (hsf : StartF W sv n i (k + 1) sf) {oa : Option Addr} {l oc : Nat} (hv : R q i = .slice oa l oc) (hO : W.ownsRow bs 47 1 (.slice oa 0 oc) 0 []) :
    Calls Ybaf.prog 26 #[.pointer (some ⟨X i, 0, none⟩), .slice oa 0 oc, .slice (some ⟨RC, 0, none⟩) n n, .bool sf] W.drew fun e w' =>
      ∃ v, e = .returned v ∧ Fr (fun x => x = X i ∨ (R q i).ownBlock = some x) W w' ∧ w'.heap[X i]? = some (.cells #[.pointer (some ⟨ST, 0, none⟩), .int .i64 i, .int .i64 ((k + 1 : Nat) : Int)] 34 (0, 0)) ∧ RowIs w' bs n len P v i (k + 1) ∧ (∀ g, v.ownBlock = some g → (R q i).ownBlock = some g ∨ W.heap.size ≤ g) := by
  have hX := d.xs i hi
  obtain ⟨D, hD, -⟩ := d.rc
  have hArg : ArgB W pa len P := I.argB d.fr
  have hST := I.same d.fr I.st (by decide) (by decide) (by decide)
  have hoq : (Value.slice oa 0 oc).ownBlock = (R q i).ownBlock := by rw [hv]; cases oa <;> rfl
  have hlow : b0 ≤ bs := by have := I.bw; have := d.lRC; have := d.bRC; omega
  have hOb : ∀ x, (Value.slice oa 0 oc).ownBlock = some x → bs ≤ x := fun x e => (hO.lt x e).1
  refine (step_walk (X i) ST RC b0 pa len pcap P n i (k + 1) n sv sf oa oc W.drew I.hl I.hn hi (by omega) (by omega) ?_ hST hArg I.Ab (I.xb i hi) (Nat.le_trans I.bw d.fr.size) hsf hR (ty_ne hD hX (by decide)) ?_ (own_base hO fun g e => Nat.le_trans hlow (hOb g e)) ?_).mono ?_
  · rw [show (((k + 1 : Nat) : Int) - 1) = ((st i : Nat) : Int) by omega]
    exact hX
  · intro SB c e
    rcases I.sv with h | ⟨SB', c', cs, h1, h2, h3⟩
    · rw [h] at e; cases e
    · rw [h1] at e
      cases e
      exact ty_ne (I.same d.fr h2 (by decide) (by decide) (by decide)) hX (by decide)
  · intro x e
    obtain ⟨cs, hc⟩ := own_type hO e
    exact ⟨ty_ne hc hX (by decide), ty_ne hc hST (by decide)⟩
  · rintro e w' ⟨v, rfl, f, hx, h⟩
    have f' : Fr (fun x => x = X i ∨ (R q i).ownBlock = some x) W w' := by
      rw [← hoq]
      exact ⟨f.os, f.tape, f.output, f.size, f.block⟩
    have hbW := d.bW
    refine ⟨v, rfl, f', hx, ?_⟩
    rcases h with ⟨h1, rfl, h2⟩ | ⟨h1, g, c, xs, rfl, h2, h3, h4⟩
    · exact ⟨.inr ⟨.inr h1, oa, oc, rfl, own_base h2 hOb⟩, fun g e => .inl (hoq ▸ e)⟩
    · have h4' : (R q i).ownBlock = some g ∨ W.heap.size ≤ g := hoq ▸ h4
      refine ⟨.inl ⟨by omega, h1, g, c, xs, rfl, own_base h2 fun g' e => ?_, h3⟩, fun g' e => ?_⟩
      · cases e
        rcases h4 with h | h
        · exact hOb _ h
        · exact Nat.le_trans hbW h
      · cases e
        exact h4'
end

end Go.Proofs.YbulkbsnkFmt
