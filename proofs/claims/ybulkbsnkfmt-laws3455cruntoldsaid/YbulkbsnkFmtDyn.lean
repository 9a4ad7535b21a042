/-
  Seat b3455aF: the state of Run (5) between two statements, with no Go in sight: what lies where, and how each write moves it on.
-/
import Derived.Test.YbulkbsnkFmtFacts
namespace Go.Proofs.YbulkbsnkFmt
open Go.RowKit
set_option linter.unusedVariables false

theorem ty_ne {W : World} {b b' : Nat} {cs cs' : Array Value} {t t' : TypeId} {z z' : Nat × Nat} (h : W.heap[b]? = some (.cells cs t z)) (h' : W.heap[b']? = some (.cells cs' t' z')) (ht : t ≠ t') : b ≠ b' := by
  rintro rfl
  rw [h] at h'
  cases h'
  exact ht rfl

theorem own_base {w : World} {b b' : Nat} {e : TypeId} {v : Value} {n : Nat} {xs : List Value} (h : w.ownsRow b e 1 v n xs) (hb : ∀ g, v.ownBlock = some g → b' ≤ g) : w.ownsRow b' e 1 v n xs := by
  obtain ⟨h1, h2⟩ := h
  refine ⟨h1, ?_⟩
  rcases h2 with h2 | ⟨g, cap, cur, rfl, hb', hg, r⟩
  · exact .inl h2
  · exact .inr ⟨g, cap, cur, rfl, hb g rfl, hg, r⟩

/-- The row cut to nothing, its room kept. -/
theorem own_cut {w : World} {b : Nat} {e : TypeId} {v : Value} {n : Nat} {xs : List Value} (h : w.ownsRow b e 1 v n xs) :
    (v = .slice none 0 0 ∧ n = 0 ∧ w.ownsRow b e 1 (.slice none 0 0) 0 []) ∨ ∃ g c, v = .slice (some ⟨g, 0, none⟩) n c ∧ w.ownsRow b e 1 (.slice (some ⟨g, 0, none⟩) 0 c) 0 [] ∧ n ≤ c := by
  rcases h.2 with ⟨rfl, rfl⟩ | ⟨g, cap, cur, rfl, hb', hg, hn, hm, hs, ht⟩
  · exact .inl ⟨rfl, rfl, rfl, .inl ⟨rfl, rfl⟩⟩
  · exact .inr ⟨g, cap, rfl, ⟨rfl, .inr ⟨g, cap, cur, rfl, hb', hg, Nat.zero_le _, hm, hs, by simp⟩⟩, hn⟩

/-- v is what node j sent in round k (nothing in round 0). -/
def RowIs (W : World) (bs n len : Nat) (P : Nat → Int) (v : Value) (j k : Nat) : Prop :=
  (k ≠ 0 ∧ sendsB len P j k = true ∧ ∃ g c xs, v = .slice (some ⟨g, 0, none⟩) n c ∧ W.ownsRow bs 47 1 v n xs ∧ ∀ t, t < n → ∃ u, xs[t]? = some u ∧ IsMsg W u (msgO len P j k t) k t) ∨
  ((k = 0 ∨ sendsB len P j k = false) ∧ ∃ a c, v = .slice a 0 c ∧ W.ownsRow bs 47 1 v 0 [])

theorem RowIs.of {W W' : World} {bs n len : Nat} {P : Nat → Int} {v : Value} {j k : Nat} {q : Nat → Prop} (h : RowIs W bs n len P v j k) (f : Fr q W W') (hg : ∀ g, v.ownBlock = some g → ¬ q g) (hm : ∀ (b : Nat) (cs : Array Value), W.heap[b]? = some (.cells cs 5 (0, 0)) → ¬ q b) : RowIs W' bs n len P v j k := by
  have ho : ∀ {l : Nat} {xs : List Value}, W.ownsRow bs 47 1 v l xs → W'.ownsRow bs 47 1 v l xs := fun h => own_of h fun g e => f.block g (h.lt g e).2 (hg g e)
  rcases h with ⟨h0, h1, g, c, xs, h2, h3, h4⟩ | ⟨h0, a, c, h1, h2⟩
  · refine .inl ⟨h0, h1, g, c, xs, h2, ho h3, fun t ht => ?_⟩
    obtain ⟨u, hu, hmu⟩ := h4 t ht
    exact ⟨u, hu, hmu.of fun b cs hb => f.block b (block_lt hb) (hm b cs hb)⟩
  · exact .inr ⟨h0, a, c, h1, ho h2⟩

theorem Told.keep {W W' : World} {RV BV SA base m : Nat} {stop : Int} {B : Nat → Int} {v1 v2 : Value} (h : Told W RV BV SA base m stop B v1 v2) (K : ∀ (b : Nat) (cs : Array Value) (t : TypeId), W.heap[b]? = some (.cells cs t (0, 0)) → (t = 26 ∨ t = 37 ∨ t = 3 ∨ t = 2) → W'.heap[b]? = W.heap[b]?) : Told W' RV BV SA base m stop B v1 v2 := by
  refine ⟨(K _ _ _ h.rv (by simp)).trans h.rv, (K _ _ _ h.bv (by simp)).trans h.bv, (K _ _ _ h.sa (by simp)).trans h.sa, own_of h.r1 fun g e => ?_, own_of h.r2 fun g e => ?_, h.sb⟩
  · obtain ⟨cs, hc⟩ := own_type h.r1 e
    exact K _ _ _ hc (by simp)
  · obtain ⟨cs, hc⟩ := own_type h.r2 e
    exact K _ _ _ hc (by simp)

theorem Fr.out {p q : Nat → Prop} {A B C : World} (h : Fr p A B) (f : Fr q B C) (hq : ∀ b, b < A.heap.size → q b → p b) : Fr p A C :=
  ⟨f.os.trans h.os, f.tape.trans h.tape, f.output.trans h.output, Nat.le_trans h.size f.size, fun b hb hp => (f.block b (Nat.lt_of_lt_of_le hb h.size) (fun e => hp (hq b hb e))).trans (h.block b hb hp)⟩

/-- The blocks of Run's caller that Run may write. -/
def Pp (n RV BV : Nat) (X : Nat → Nat) (b : Nat) : Prop := (∃ i, i < n ∧ b = X i) ∨ b = RV ∨ b = BV

structure Dyn (w : World) (n ST RV BV SA RS RC RW bs : Nat) (X A : Nat → Nat) (stop : Int) (B : Nat → Int) (W : World) (m : Nat) (a b : Int) (st : Nat → Nat) (R : Nat → Nat → Value) : Prop where
  fr : Fr (Pp n RV BV X) w W
  xs : ∀ i, i < n → W.heap[X i]? = some (.cells #[.pointer (some ⟨ST, 0, none⟩), .int .i64 i, .int .i64 (st i)] 34 (0, 0))
  told : ∃ v1 v2, Told W RV BV SA w.heap.size m stop B v1 v2
  rs : W.heap[RS]? = some (.cells #[.int .i64 a, .int .i64 b] 40 (0, 0))
  rc : ∃ D, W.heap[RC]? = some (.cells D 47 (0, 0)) ∧ D.size = n
  rw : W.heap[RW]? = some (.cells #[.slice (some ⟨A 0, 0, none⟩) n n, .slice (some ⟨A 1, 0, none⟩) n n] 45 (0, 0))
  ar : ∀ p, p < 2 → ∃ C, W.heap[A p]? = some (.cells C 46 (0, 0)) ∧ C.size = n ∧ ∀ i, i < n → C[i]? = some (R p i)
  aa : A 0 ≠ A 1
  ro : ∀ p i, p < 2 → i < n → ∃ l xs, W.ownsRow bs 47 1 (R p i) l xs
  rd : ∀ p i p' i' g, p < 2 → i < n → p' < 2 → i' < n → (R p i).ownBlock = some g → (R p' i').ownBlock = some g → p = p' ∧ i = i'
  lRS : w.heap.size ≤ RS
  lRC : w.heap.size ≤ RC
  lA : ∀ p, p < 2 → w.heap.size ≤ A p
  bRC : RC < bs
  bW : bs ≤ W.heap.size
  re : W.heap[w.heap.size]? = some (.cells #[.int .i64 0, .int .i64 0] 40 (0, 0))
  nRS : w.heap.size ≠ RS

section
variable {w : World} {n ST RV BV SA RS RC RW bs : Nat} {X A : Nat → Nat} {stop : Int} {B : Nat → Int} {W : World} {m : Nat} {a b : Int} {st : Nat → Nat} {R : Nat → Nat → Value}

theorem Dyn.own47 (d : Dyn w n ST RV BV SA RS RC RW bs X A stop B W m a b st R) {p i g : Nat} (hp : p < 2) (hi : i < n) (hg : (R p i).ownBlock = some g) : (∃ cs, W.heap[g]? = some (.cells cs 47 (0, 0))) ∧ g ≠ RC ∧ bs ≤ g ∧ g < W.heap.size := by
  obtain ⟨l, xs, h⟩ := d.ro p i hp hi
  have h1 := h.lt g hg
  have := d.bRC
  exact ⟨own_type h hg, by omega, h1.1, h1.2⟩

/-- A write into res. -/
theorem Dyn.setRS (d : Dyn w n ST RV BV SA RS RC RW bs X A stop B W m a b st R) {W' : World} {a' b' : Int} (f : Fr (fun x => x = RS) W W') (hrs : W'.heap[RS]? = some (.cells #[.int .i64 a', .int .i64 b'] 40 (0, 0))) :
    Dyn w n ST RV BV SA RS RC RW bs X A stop B W' m a' b' st R ∧ ∀ len P p j k, p < 2 → j < n → RowIs W bs n len P (R p j) j k → RowIs W' bs n len P (R p j) j k := by
  have K : ∀ (b : Nat) (cs : Array Value) (t : TypeId), W.heap[b]? = some (.cells cs t (0, 0)) → t ≠ 40 → W'.heap[b]? = W.heap[b]? := fun b cs t h ht => f.block b (block_lt h) (ty_ne h d.rs ht)
  refine ⟨⟨d.fr.out f fun b hb e => absurd d.lRS (by omega), fun i hi => (K _ _ _ (d.xs i hi) (by decide)).trans (d.xs i hi), ?_, hrs, ?_, (K _ _ _ d.rw (by decide)).trans d.rw, fun p hp => ?_, d.aa, fun p i hp hi => ?_, d.rd, d.lRS, d.lRC, d.lA, d.bRC, Nat.le_trans d.bW f.size, (f.block _ (block_lt d.re) d.nRS).trans d.re, d.nRS⟩, fun len P p j k hp hj h => ?_⟩
  · obtain ⟨v1, v2, h⟩ := d.told
    exact ⟨v1, v2, h.keep fun b cs t hb ht => K b cs t hb (by rcases ht with rfl | rfl | rfl | rfl <;> decide)⟩
  · obtain ⟨D, h1, h2⟩ := d.rc
    exact ⟨D, (K _ _ _ h1 (by decide)).trans h1, h2⟩
  · obtain ⟨C, h1, h2⟩ := d.ar p hp
    exact ⟨C, (K _ _ _ h1 (by decide)).trans h1, h2⟩
  · obtain ⟨l, xs, h⟩ := d.ro p i hp hi
    exact ⟨l, xs, own_of h fun g e => by obtain ⟨cs, hc⟩ := own_type h e; exact K _ _ _ hc (by decide)⟩
  · refine h.of f (fun g e => ?_) fun b cs hb => ty_ne hb d.rs (by decide)
    obtain ⟨⟨cs, hc⟩, -⟩ := d.own47 hp hj e
    exact ty_ne hc d.rs (by decide)

/-- A write into received. -/
theorem Dyn.setRC (d : Dyn w n ST RV BV SA RS RC RW bs X A stop B W m a b st R) (j0 : Nat) (v0 : Value) :
    Dyn w n ST RV BV SA RS RC RW bs X A stop B (W.setCell ⟨RC, j0, none⟩ v0) m a b st R ∧ (∀ len P p j k, p < 2 → j < n → RowIs W bs n len P (R p j) j k → RowIs (W.setCell ⟨RC, j0, none⟩ v0) bs n len P (R p j) j k) ∧ (∀ v o k r, IsMsg W v o k r → IsMsg (W.setCell ⟨RC, j0, none⟩ v0) v o k r) ∧ (j0 < n → (W.setCell ⟨RC, j0, none⟩ v0).cell? ⟨RC, j0, none⟩ = some v0) ∧ (∀ j, j ≠ j0 → (W.setCell ⟨RC, j0, none⟩ v0).cell? ⟨RC, j, none⟩ = W.cell? ⟨RC, j, none⟩) := by
  obtain ⟨D, hD, hDs⟩ := d.rc
  have f : Fr (fun x => x = RC) W (W.setCell ⟨RC, j0, none⟩ v0) := Fr.set rfl
  have hs := heap_setCell_same W RC j0 D 47 v0 hD
  obtain ⟨W', hW'⟩ : ∃ W', W' = W.setCell ⟨RC, j0, none⟩ v0 := ⟨_, rfl⟩
  rw [← hW'] at f hs ⊢
  have K : ∀ (b : Nat) (cs : Array Value) (t : TypeId), W.heap[b]? = some (.cells cs t (0, 0)) → t ≠ 47 → W'.heap[b]? = W.heap[b]? := fun b cs t h ht => f.block b (block_lt h) (ty_ne h hD ht)
  refine ⟨⟨d.fr.out f fun b hb e => absurd d.lRC (by omega), fun i hi => (K _ _ _ (d.xs i hi) (by decide)).trans (d.xs i hi), ?_, (K _ _ _ d.rs (by decide)).trans d.rs, ⟨_, hs, by simpa using hDs⟩, (K _ _ _ d.rw (by decide)).trans d.rw, fun p hp => ?_, d.aa, fun p i hp hi => ?_, d.rd, d.lRS, d.lRC, d.lA, d.bRC, Nat.le_trans d.bW f.size, (K _ _ _ d.re (by decide)).trans d.re, d.nRS⟩, fun len P p j k hp hj h => ?_, fun v o k r h => ?_, fun hj => ?_, fun j hj => ?_⟩
  · obtain ⟨v1, v2, h⟩ := d.told
    exact ⟨v1, v2, h.keep fun b cs t hb ht => K b cs t hb (by rcases ht with rfl | rfl | rfl | rfl <;> decide)⟩
  · obtain ⟨C, h1, h2⟩ := d.ar p hp
    exact ⟨C, (K _ _ _ h1 (by decide)).trans h1, h2⟩
  · obtain ⟨l, xs, h⟩ := d.ro p i hp hi
    exact ⟨l, xs, own_of h fun g e => by obtain ⟨-, h1, -, h3⟩ := d.own47 hp hi e; exact f.block g h3 h1⟩
  · exact h.of f (fun g e => (d.own47 hp hj e).2.1) fun b cs hb => ty_ne hb hD (by decide)
  · exact h.of fun b cs hb => K b cs 5 hb (by decide)
  · simp only [World.cell?, hs]
    simp [hDs, hj]
  · simp only [World.cell?, hs, hD]
    simp [Ne.symm hj]

/-- Node i has taken its step, and its row lies in rows[p][i]. -/
theorem Dyn.step (d : Dyn w n ST RV BV SA RS RC RW bs X A stop B W m a b st R) (hinj : ∀ i j, i < n → j < n → X i = X j → i = j) {p i k' : Nat} {v : Value} {W1 : World} (hp : p < 2) (hi : i < n)
    (f : Fr (fun x => x = X i ∨ (R p i).ownBlock = some x) W W1) (hx : W1.heap[X i]? = some (.cells #[.pointer (some ⟨ST, 0, none⟩), .int .i64 i, .int .i64 k'] 34 (0, 0)))
    (hv : ∃ l xs, W1.ownsRow bs 47 1 v l xs) (ho : ∀ g, v.ownBlock = some g → (R p i).ownBlock = some g ∨ W.heap.size ≤ g) :
    Dyn w n ST RV BV SA RS RC RW bs X A stop B (W1.setCell ⟨A p, i, none⟩ v) m a b (fun j => if j = i then k' else st j) (fun q j => if q = p ∧ j = i then v else R q j) ∧
    (∀ len P q j k, q < 2 → j < n → ¬ (q = p ∧ j = i) → RowIs W bs n len P (R q j) j k → RowIs (W1.setCell ⟨A p, i, none⟩ v) bs n len P (R q j) j k) ∧
    (∀ len P j k, RowIs W1 bs n len P v j k → RowIs (W1.setCell ⟨A p, i, none⟩ v) bs n len P v j k) ∧
    (∃ z, W1.cell? ⟨A p, i, none⟩ = some z) ∧ W1.frozen? ⟨A p, i, none⟩ = false := by
  obtain ⟨C, hC, hCs, hCr⟩ := d.ar p hp
  have K1 : ∀ (b : Nat) (cs : Array Value) (t : TypeId), W.heap[b]? = some (.cells cs t (0, 0)) → t ≠ 34 → t ≠ 47 → W1.heap[b]? = W.heap[b]? := fun b cs t h ht ht' => f.block b (block_lt h) (fun e => by
    rcases e with e | e
    · exact ty_ne h (d.xs i hi) ht e
    · obtain ⟨⟨cs', hc⟩, -⟩ := d.own47 hp hi e
      exact ty_ne h hc ht' rfl)
  have hC1 : W1.heap[A p]? = some (.cells C 46 (0, 0)) := (K1 _ _ _ hC (by decide) (by decide)).trans hC
  have f2 : Fr (fun x => x = A p) W1 (W1.setCell ⟨A p, i, none⟩ v) := Fr.set rfl
  have hs := heap_setCell_same W1 (A p) i C 46 v hC1
  have hcell : W1.cell? ⟨A p, i, none⟩ = some (R p i) := by simp only [World.cell?, hC1]; exact hCr i hi
  have hfz : W1.frozen? ⟨A p, i, none⟩ = false := by simp [World.frozen?, hC1]
  obtain ⟨W', hW'⟩ : ∃ W', W' = W1.setCell ⟨A p, i, none⟩ v := ⟨_, rfl⟩
  rw [← hW'] at f2 hs ⊢
  have K2 : ∀ (b : Nat) (cs : Array Value) (t : TypeId), W1.heap[b]? = some (.cells cs t (0, 0)) → t ≠ 46 → W'.heap[b]? = W1.heap[b]? := fun b cs t h ht => f2.block b (block_lt h) (ty_ne h hC1 ht)
  have K : ∀ (b : Nat) (cs : Array Value) (t : TypeId), W.heap[b]? = some (.cells cs t (0, 0)) → t ≠ 34 → t ≠ 47 → t ≠ 46 → W'.heap[b]? = W.heap[b]? := fun b cs t h h1 h2 h3 => (K2 b cs t ((K1 b cs t h h1 h2).trans h) h3).trans (K1 b cs t h h1 h2)
  have f3 : Fr (fun x => x = X i ∨ (R p i).ownBlock = some x ∨ x = A p) W W' := (f.mono fun b _ h => h.elim .inl (fun h => .inr (.inl h))).trans (f2.mono fun b _ h => .inr (.inr h))
  have hXlt := d.xs i hi
  have hAA : ∀ q, q < 2 → q ≠ p → A q ≠ A p := fun q hq hne e => by
    have := d.aa
    have h1 : (q = 0 ∧ p = 1) ∨ (q = 1 ∧ p = 0) := by omega
    rcases h1 with ⟨rfl, rfl⟩ | ⟨rfl, rfl⟩
    · exact this e
    · exact this e.symm
  -- the other rows' blocks
  have ho1 : ∀ q j g, q < 2 → j < n → ¬ (q = p ∧ j = i) → (R q j).ownBlock = some g → ¬ (g = X i ∨ (R p i).ownBlock = some g ∨ g = A p) := by
    intro q j g hq hj hne e h
    obtain ⟨⟨cs, hc⟩, -⟩ := d.own47 hq hj e
    rcases h with h | h | h
    · exact ty_ne hc (d.xs i hi) (by decide) h
    · exact hne (d.rd q j p i g hq hj hp hi e h)
    · exact ty_ne hc hC (by decide) h
  have hv' : ∃ l xs, W'.ownsRow bs 47 1 v l xs := by
    obtain ⟨l, xs, h⟩ := hv
    exact ⟨l, xs, own_of h fun g e => by obtain ⟨cs, hc⟩ := own_type h e; exact K2 _ _ _ hc (by decide)⟩
  refine ⟨⟨d.fr.out f3 fun b hb e => ?_, fun j hj => ?_, ?_, (K _ _ _ d.rs (by decide) (by decide) (by decide)).trans d.rs, ?_, (K _ _ _ d.rw (by decide) (by decide) (by decide)).trans d.rw, fun q hq => ?_, d.aa, fun q j hq hj => ?_, ?_, d.lRS, d.lRC, d.lA, d.bRC, Nat.le_trans d.bW f3.size, (K _ _ _ d.re (by decide) (by decide) (by decide)).trans d.re, d.nRS⟩, ?_, ?_, ⟨_, hcell⟩, hfz⟩
  · rcases e with e | e | e
    · exact .inl ⟨i, hi, e⟩
    · have h1 := (d.own47 hp hi e).2.2.1
      have := d.bRC
      have := d.lRC
      omega
    · have := d.lA p hp
      omega
  · by_cases e : j = i
    · subst e
      rw [if_pos rfl]
      exact (K2 _ _ _ hx (by decide)).trans hx
    · simp only [if_neg e]
      have h1 : W1.heap[X j]? = W.heap[X j]? := f.block _ (block_lt (d.xs j hj)) fun h => by
        rcases h with h | h
        · exact e (hinj j i hj hi h)
        · obtain ⟨⟨cs', hc⟩, -⟩ := d.own47 hp hi h
          exact ty_ne (d.xs j hj) hc (by decide) rfl
      have h2 := h1.trans (d.xs j hj)
      exact (K2 _ _ _ h2 (by decide)).trans h2
  · obtain ⟨v1, v2, h⟩ := d.told
    exact ⟨v1, v2, h.keep fun b cs t hb ht => K b cs t hb (by rcases ht with rfl | rfl | rfl | rfl <;> decide) (by rcases ht with rfl | rfl | rfl | rfl <;> decide) (by rcases ht with rfl | rfl | rfl | rfl <;> decide)⟩
  · obtain ⟨D, h1, h2⟩ := d.rc
    have h3 : W1.heap[RC]? = some (.cells D 47 (0, 0)) := (f.block RC (block_lt h1) fun h => by
      rcases h with h | h
      · exact ty_ne h1 (d.xs i hi) (by decide) h
      · exact (d.own47 hp hi h).2.1 rfl).trans h1
    exact ⟨D, (K2 _ _ _ h3 (by decide)).trans h3, h2⟩
  · by_cases e : q = p
    · subst e
      refine ⟨_, hs, by simpa using hCs, fun j hj => ?_⟩
      by_cases e2 : j = i
      · subst e2
        simp [hCs, hj]
      · simp only [Array.getElem?_setIfInBounds_ne (Ne.symm e2), e2, and_false, if_false]
        exact hCr j hj
    · obtain ⟨C', h1, h2, h3⟩ := d.ar q hq
      have h4 := (K1 _ _ _ h1 (by decide) (by decide)).trans h1
      refine ⟨C', (f2.block _ (block_lt h4) (hAA q hq e)).trans h4, h2, fun j hj => ?_⟩
      simp only [e, false_and, if_false]
      exact h3 j hj
  · by_cases e : q = p ∧ j = i
    · simp only [if_pos e]
      exact hv'
    · simp only [if_neg e]
      obtain ⟨l, xs, h⟩ := d.ro q j hq hj
      exact ⟨l, xs, own_of h fun g e' => f3.block g (d.own47 hq hj e').2.2.2 (ho1 q j g hq hj e e')⟩
  · intro q j q' j' g hq hj hq' hj' e e'
    by_cases h1 : q = p ∧ j = i
    · by_cases h2 : q' = p ∧ j' = i
      · omega
      · simp only [if_pos h1] at e
        simp only [if_neg h2] at e'
        rcases ho g e with h | h
        · exact absurd (d.rd p i q' j' g hp hi hq' hj' h e') (by omega)
        · have := (d.own47 hq' hj' e').2.2.2
          omega
    · by_cases h2 : q' = p ∧ j' = i
      · simp only [if_neg h1] at e
        simp only [if_pos h2] at e'
        rcases ho g e' with h | h
        · exact absurd (d.rd p i q j g hp hi hq hj h e) (by omega)
        · have := (d.own47 hq hj e).2.2.2
          omega
      · simp only [if_neg h1] at e
        simp only [if_neg h2] at e'
        exact d.rd q j q' j' g hq hj hq' hj' e e'
  · intro len P q j k hq hj hne h
    refine h.of f3 (fun g e => ho1 q j g hq hj hne e) fun b cs hb h => ?_
    rcases h with h | h | h
    · exact ty_ne hb (d.xs i hi) (by decide) h
    · obtain ⟨⟨cs', hc⟩, -⟩ := d.own47 hp hi h
      exact ty_ne hb hc (by decide) rfl
    · exact ty_ne hb hC (by decide) h
  · intro len P j k h
    refine h.of f2 (fun g e => ?_) fun b cs hb => ty_ne hb hC1 (by decide)
    obtain ⟨l, xs, h⟩ := hv
    obtain ⟨cs, hc⟩ := own_type h e
    exact ty_ne hc hC1 (by decide)

/-- done has been told of the round. -/
theorem Dyn.done (d : Dyn w n ST RV BV SA RS RC RW bs X A stop B W m a b st R) {W' : World} {v1 v2 v1' v2' : Value} (ht : Told W RV BV SA w.heap.size m stop B v1 v2) (f : Fr (fun b => b = RV ∨ b = BV ∨ v1.ownBlock = some b ∨ v2.ownBlock = some b) W W') (t' : Told W' RV BV SA w.heap.size (m + 1) stop B v1' v2') :
    Dyn w n ST RV BV SA RS RC RW bs X A stop B W' (m + 1) a b st R ∧ ∀ len P p j k, p < 2 → j < n → RowIs W bs n len P (R p j) j k → RowIs W' bs n len P (R p j) j k := by
  have N : ∀ (b : Nat) (cs : Array Value) (t : TypeId), W.heap[b]? = some (.cells cs t (0, 0)) → t ≠ 26 → t ≠ 37 → t ≠ 3 → t ≠ 2 → ¬ (b = RV ∨ b = BV ∨ v1.ownBlock = some b ∨ v2.ownBlock = some b) := fun b cs t h h1 h2 h3 h4 e => by
    rcases e with e | e | e | e
    · exact ty_ne h ht.rv h1 e
    · exact ty_ne h ht.bv h2 e
    · obtain ⟨cs', hc⟩ := own_type ht.r1 e
      exact ty_ne h hc h3 rfl
    · obtain ⟨cs', hc⟩ := own_type ht.r2 e
      exact ty_ne h hc h4 rfl
  have K : ∀ (b : Nat) (cs : Array Value) (t : TypeId), W.heap[b]? = some (.cells cs t (0, 0)) → t ≠ 26 → t ≠ 37 → t ≠ 3 → t ≠ 2 → W'.heap[b]? = W.heap[b]? := fun b cs t h h1 h2 h3 h4 => f.block b (block_lt h) (N b cs t h h1 h2 h3 h4)
  refine ⟨⟨d.fr.out f fun b hb e => ?_, fun i hi => (K _ _ _ (d.xs i hi) (by decide) (by decide) (by decide) (by decide)).trans (d.xs i hi), ⟨_, _, t'⟩, (K _ _ _ d.rs (by decide) (by decide) (by decide) (by decide)).trans d.rs, ?_, (K _ _ _ d.rw (by decide) (by decide) (by decide) (by decide)).trans d.rw, fun p hp => ?_, d.aa, fun p i hp hi => ?_, d.rd, d.lRS, d.lRC, d.lA, d.bRC, Nat.le_trans d.bW f.size, (K _ _ _ d.re (by decide) (by decide) (by decide) (by decide)).trans d.re, d.nRS⟩, fun len P p j k hp hj h => ?_⟩
  · rcases e with e | e | e | e
    · exact .inr (.inl e)
    · exact .inr (.inr e)
    · have := (ht.r1.lt b e).1; omega
    · have := (ht.r2.lt b e).1; omega
  · obtain ⟨D, h1, h2⟩ := d.rc
    exact ⟨D, (K _ _ _ h1 (by decide) (by decide) (by decide) (by decide)).trans h1, h2⟩
  · obtain ⟨C, h1, h2⟩ := d.ar p hp
    exact ⟨C, (K _ _ _ h1 (by decide) (by decide) (by decide) (by decide)).trans h1, h2⟩
  · obtain ⟨l, xs, h⟩ := d.ro p i hp hi
    exact ⟨l, xs, own_of h fun g e => by obtain ⟨cs, hc⟩ := own_type h e; exact K _ _ _ hc (by decide) (by decide) (by decide) (by decide)⟩
  · refine h.of f (fun g e => ?_) fun b cs hb => N b cs 5 hb (by decide) (by decide) (by decide) (by decide)
    obtain ⟨⟨cs, hc⟩, -⟩ := d.own47 hp hj e
    exact N g cs 47 hc (by decide) (by decide) (by decide) (by decide)
end

end Go.Proofs.YbulkbsnkFmt
