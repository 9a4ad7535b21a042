/-
  Seat b3455aF: LawS3455CRun (3): the walk.
-/
import Derived.Test.YbulkbsnkFmtMain0
import Derived.Test.YbulkbsnkFmtRun
namespace Go.Proofs.YbulkbsnkFmt
open Go.RowKit
set_option linter.unusedVariables false

/-- A slice that came in, its elements by the function E. -/
def ArgV (w : World) (a : Option Addr) (len : Nat) (E : Nat → Value) : Prop :=
  0 < len → ∃ b o, a = some ⟨b, o, none⟩ ∧ ∀ j, j < len → w.cell? ⟨b, o + j, none⟩ = some (E j)

/-- What 'make' lays and a loop then fills: block g, n cells, the first i by F, the rest zero. -/
def Fill (w : World) (g n i : Nat) (t : TypeId) (F : Nat → Value) (z : Value) : Prop :=
  ∃ C : Array Value, w.heap[g]? = some (.cells C t (0, 0)) ∧ C.size = n ∧ ∀ j, j < n → C[j]? = some (if j < i then F j else z)
theorem Fill.has {w : World} {g n i : Nat} {t : TypeId} {F : Nat → Value} {z : Value} (h : Fill w g n i t F z) {j : Nat} (hj : j < n) : w.cell? ⟨g, j, none⟩ = some (if j < i then F j else z) ∧ w.frozen? ⟨g, j, none⟩ = false := by
  obtain ⟨C, hC, hs, hc⟩ := h
  exact ⟨by simp only [World.cell?, hC]; exact hc j hj, by simp [World.frozen?, hC]⟩
theorem Fill.set {w : World} {g n i : Nat} {t : TypeId} {F : Nat → Value} {z : Value} (h : Fill w g n i t F z) (hi : i < n) : Fill (w.setCell ⟨g, i, none⟩ (F i)) g n (i + 1) t F z := by
  obtain ⟨C, hC, hs, hc⟩ := h
  refine ⟨C.setIfInBounds i (F i), heap_setCell_same w g i C t _ hC, by simpa using hs, fun j hj => ?_⟩
  by_cases e : j = i
  · subst e
    rw [Array.getElem?_setIfInBounds_self_of_lt (by omega), if_pos (by omega)]
  · rw [Array.getElem?_setIfInBounds_ne (by omega), hc j hj]
    by_cases h : j < i
    · rw [if_pos h, if_pos (by omega)]
    · rw [if_neg h, if_neg (by omega)]
theorem Fill.skip {w : World} {g n i : Nat} {t : TypeId} {F : Nat → Value} {z : Value} (h : Fill w g n i t F z) (hz : F i = z) : Fill w g n (i + 1) t F z := by
  obtain ⟨C, hC, hs, hc⟩ := h
  refine ⟨C, hC, hs, fun j hj => ?_⟩
  rw [hc j hj]
  by_cases e : j = i
  · subst e
    rw [if_neg (by omega), if_pos (by omega), hz]
  · by_cases h : j < i
    · rw [if_pos h, if_pos (by omega)]
    · rw [if_neg h, if_neg (by omega)]
theorem Fill.of {w w' : World} {g n i : Nat} {t : TypeId} {F : Nat → Value} {z : Value} (h : Fill w g n i t F z) (he : w'.heap[g]? = w.heap[g]?) : Fill w' g n i t F z := by
  obtain ⟨C, hC, hs, hc⟩ := h
  exact ⟨C, he.trans hC, hs, hc⟩
theorem Fill.lt {w : World} {g n i : Nat} {t : TypeId} {F : Nat → Value} {z : Value} (h : Fill w g n i t F z) : g < w.heap.size := by
  obtain ⟨C, hC, -⟩ := h
  exact block_lt hC
theorem made_at (n i : Nat) (v : Value) (hi : i < n) : (madeCells #[v] n)[i]? = some v := by
  simp [madeCells]
  exact ⟨i, by simp [hi], by rw [Nat.mod_one]; rfl⟩
theorem Fill.new {w : World} {g n : Nat} {t : TypeId} (F : Nat → Value) {z : Value} (h : w.heap[g]? = some (.cells (madeCells #[z] n) t (0, 0))) : Fill w g n 0 t F z :=
  ⟨_, h, made_size _ _, fun j hj => by rw [if_neg (by omega)]; exact made_at n j z hj⟩
theorem Fill.full {w : World} {g n : Nat} {t : TypeId} {F : Nat → Value} {z : Value} (h : Fill w g n n t F z) : ∃ C : Array Value, w.heap[g]? = some (.cells C t (0, 0)) ∧ ∀ j, j < n → C[j]? = some (F j) := by
  obtain ⟨C, hC, hs, hc⟩ := h
  exact ⟨C, hC, fun j hj => by rw [hc j hj, if_pos hj]⟩

theorem heap3 (w : World) (a b c : Obj) : (((w.alloc a).alloc b).alloc c).heap[w.heap.size]? = some a ∧ (((w.alloc a).alloc b).alloc c).heap[w.heap.size + 1]? = some b ∧ (((w.alloc a).alloc b).alloc c).heap[w.heap.size + 1 + 1]? = some c ∧ Below w.heap.size w (((w.alloc a).alloc b).alloc c) := by
  have s1 := World.size_alloc w a
  have s2 := World.size_alloc (w.alloc a) b
  refine ⟨?_, ?_, ?_, (((Below.refl _ w).alloc (Nat.le_refl _) a).alloc (by omega) b).alloc (by omega) c⟩
  · exact (Below.heap_alloc _ _ _ (by omega)).trans ((Below.heap_alloc _ _ _ (by omega)).trans (heap_new w a))
  · exact (Below.heap_alloc _ _ _ (by omega)).trans (s1 ▸ heap_new (w.alloc a) b)
  · exact s1 ▸ s2 ▸ heap_new ((w.alloc a).alloc b) c

/-- Behind the first statements: stopAt's box, the state, START's times. -/
structure St1 (w W : World) (n len pcap : Nat) (pa : Option Addr) (stop : Int) (S : Nat → Int) (sv : Value) : Prop where
  be : Below w.heap.size w W
  sa : W.heap[w.heap.size]? = some (.cells #[.int .i64 stop] 3 (0, 0))
  st : W.heap[w.heap.size + 1]? = some (.cells #[.slice pa len pcap, .int .i64 n, sv, .bool false] 28 (0, 0))
  sv : sv = .slice none 0 0 ∨ ∃ SB, sv = .slice (some ⟨SB, 0, none⟩) n n ∧ Fill W SB n n 3 (fun i => .int .i64 (S i)) (.int .i64 0)

/-- What Run is handed. -/
theorem inp_of {w wc W2 W4 : World} {n len pcap RB MB : Nat} {pa : Option Addr} {P : Nat → Int} {rel : Nat → Bool} {S : Nat → Int} {sv : Value} {stop : Int} (hl : len ≤ 1024) (hn : n ≤ 4) (hA : ArgB w pa len P) (h1 : St1 w wc n len pcap pa stop S sv) (hRB : RB = wc.heap.size)
    (f1 : Fill W2 RB n n 4 (fun i => .bool (rel i)) (.bool false)) (b1 : Below RB wc W2) (hMB : MB = W2.heap.size) (hsz : W4.heap.size = MB + 2 + n) (b2 : Below MB W2 W4) (f2 : Fill W4 MB n n 32 (fun j => .pointer (some ⟨MB + 2 + j, 0, none⟩)) (.pointer none)) (f3 : Fill W4 (MB + 1) n n 36 (fun j => .iface 32 (.pointer (some ⟨MB + 2 + j, 0, none⟩))) .nilIface)
    (hxs : ∀ j, j < n → W4.heap[MB + 2 + j]? = some (.cells #[.pointer (some ⟨w.heap.size + 1, 0, none⟩), .int .i64 j, .int .i64 0] 34 (0, 0))) :
    Inp ((W4.alloc (.cells #[.slice none 0 0] 26)).alloc (.cells #[.slice none 0 0] 37)) w.heap.size n len pcap pa P rel (fun j => MB + 2 + j) (w.heap.size + 1) (MB + 1) RB (MB + 2 + n) (MB + 2 + n + 1) w.heap.size sv S stop (fun i => bitsSum len P rel n (i + 1) n) ∧
    Below w.heap.size w ((W4.alloc (.cells #[.slice none 0 0] 26)).alloc (.cells #[.slice none 0 0] 37)) ∧
    ((∃ C : Array Value, ((W4.alloc (.cells #[.slice none 0 0] 26)).alloc (.cells #[.slice none 0 0] 37)).heap[MB]? = some (.cells C 32 (0, 0)) ∧ ∀ j, j < n → C[j]? = some (.pointer (some ⟨MB + 2 + j, 0, none⟩))) ∧ W4.cell? ⟨w.heap.size + 1, 2, none⟩ = some sv) := by
  obtain ⟨a1, a2, a3⟩ := heap2 W4 (.cells #[.slice none 0 0] 26) (.cells #[.slice none 0 0] 37)
  have hs5 : ((W4.alloc (.cells #[.slice none 0 0] 26)).alloc (.cells #[.slice none 0 0] 37)).heap.size = MB + 2 + n + 2 := by rw [World.size_alloc, World.size_alloc, hsz]
  obtain ⟨W5, hW5⟩ : ∃ W5, W5 = (W4.alloc (.cells #[.slice none 0 0] 26)).alloc (.cells #[.slice none 0 0] 37) := ⟨_, rfl⟩
  rw [← hW5] at a1 a2 a3 hs5 ⊢
  rw [hsz] at a1 a2
  have bW := a3 _ (Nat.le_refl _)
  have k4 : ∀ x, x < MB + 2 + n → W5.heap[x]? = W4.heap[x]? := fun x hx => bW.block x (by omega)
  have hRM : RB < MB := by rw [hMB]; exact f1.lt
  have k2 : ∀ x, x < RB → W4.heap[x]? = wc.heap[x]? := fun x hx => (b2.block x (by omega)).trans (b1.block x hx)
  have hwr : w.heap.size ≤ RB := by rw [hRB]; exact h1.be.size
  have hb4 : Below w.heap.size w W4 := h1.be.trans ((b1.mono hwr).trans (b2.mono (by omega)))
  have hb5 : Below w.heap.size w W5 := hb4.trans (a3 _ (by omega))
  have l1 := block_lt h1.sa
  have l2 := block_lt h1.st
  rw [← hRB] at l1 l2
  have e1 : W5.heap[w.heap.size]? = some (.cells #[.int .i64 stop] 3 (0, 0)) := (k4 _ (by omega)).trans ((k2 _ l1).trans h1.sa)
  have e2 : W4.heap[w.heap.size + 1]? = some (.cells #[.slice pa len pcap, .int .i64 n, sv, .bool false] 28 (0, 0)) := (k2 _ l2).trans h1.st
  obtain ⟨c1, hc1, hc1'⟩ := f1.full
  obtain ⟨c2, hc2, hc2'⟩ := f2.full
  obtain ⟨c3, hc3, hc3'⟩ := f3.full
  refine ⟨⟨hl, hn, fun h0 => hA.below (hA.blt h0) hb5 h0, fun h0 => hA.blt h0, by omega, fun i hi => (k4 _ (by omega)).trans (hxs i hi), fun i j _ _ e => by omega, fun i hi => by omega, (k4 _ (by omega)).trans e2, ⟨c3, (k4 _ (by omega)).trans hc3, hc3'⟩, ⟨c1, (k4 _ (by omega)).trans ((b2.block _ hRM).trans hc1), hc1'⟩, ?_, ⟨a1, a2, e1, ⟨rfl, .inl ⟨rfl, rfl⟩⟩, ⟨rfl, .inl ⟨rfl, rfl⟩⟩, by omega⟩, by omega, by omega⟩, hb5, ⟨c2, (k4 _ (by omega)).trans hc2, hc2'⟩, by simp [World.cell?, e2]⟩
  rcases h1.sv with h | ⟨SB, h, hf⟩
  · exact .inl h
  · have l3 := hf.lt
    rw [← hRB] at l3
    obtain ⟨c4, hc4, hc4'⟩ := hf.full
    exact .inr ⟨SB, n, c4, h, (k4 _ (by omega)).trans ((k2 _ l3).trans hc4), hc4'⟩

/-- What the checks behind Run read. -/
structure Aft (w W : World) (n K MB RB RV BV RES len : Nat) (pa : Option Addr) (P : Nat → Int) (rel : Nat → Bool) (stop : Int) (B : Nat → Int) (v1 v2 : Value) : Prop where
  be : Below w.heap.size w W
  bad : W.cell? ⟨w.heap.size + 1, 3, none⟩ = some (.bool false)
  stp : W.cell? ⟨w.heap.size, 0, none⟩ = some (.int .i64 stop)
  r0 : W.cell? ⟨RES, 0, none⟩ = some (.int .i64 K)
  r1 : W.cell? ⟨RES, 1, none⟩ = some (.int .i64 (sumB B K))
  rv : W.cell? ⟨RV, 0, none⟩ = some v1
  bv : W.cell? ⟨BV, 0, none⟩ = some v2
  mine : ∀ i, i < n → W.cell? ⟨MB, i, none⟩ = some (.pointer (some ⟨MB + 2 + i, 0, none⟩)) ∧ W.cell? ⟨MB + 2 + i, 2, none⟩ = some (.int .i64 K)
  arg : ArgB W pa len P
  rel : ∀ i, i < n → W.cell? ⟨RB, i, none⟩ = some (.bool (rel i))
  f1 : ∃ a c, v1 = .slice a K c ∧ (0 < K → ∃ g, a = some ⟨g, 0, none⟩ ∧ ∀ k, k < K → W.cell? ⟨g, k, none⟩ = some (.int .i64 ((k : Int) + 1)))
  f2 : ∃ a c, v2 = .slice a K c ∧ (0 < K → ∃ g, a = some ⟨g, 0, none⟩ ∧ ∀ k, k < K → W.cell? ⟨g, k, none⟩ = some (.int .i64 (B k)))

theorem own_list {W : World} {base K : Nat} {e : TypeId} {v : Value} {F : Nat → Value} (h : W.ownsRow base e 1 v K ((List.range K).map F)) : ∃ a c, v = .slice a K c ∧ (0 < K → ∃ g, a = some ⟨g, 0, none⟩ ∧ ∀ k, k < K → W.cell? ⟨g, k, none⟩ = some (F k)) := by
  rcases own_cut h with ⟨rfl, rfl, -⟩ | ⟨g, c, rfl, -, -⟩
  · exact ⟨none, 0, rfl, fun h => absurd h (by omega)⟩
  · refine ⟨_, c, rfl, fun _ => ⟨g, rfl, fun k hk => ?_⟩⟩
    rw [own_cell h hk]
    simp [hk]

theorem Told.alloc {W : World} {RV BV SA base m : Nat} {stop : Int} {B : Nat → Int} {v1 v2 : Value} (h : Told W RV BV SA base m stop B v1 v2) (o : Obj) : Told (W.alloc o) RV BV SA base m stop B v1 v2 :=
  h.keep fun b cs t hb _ => Below.heap_alloc _ _ _ (block_lt hb)

theorem after_run {w W5 w6 : World} {n len pcap RB MB K : Nat} {pa : Option Addr} {P : Nat → Int} {rel : Nat → Bool} {S : Nat → Int} {sv v1 v2 : Value} {stop : Int} {B : Nat → Int}
    (I : Inp W5 w.heap.size n len pcap pa P rel (fun j => MB + 2 + j) (w.heap.size + 1) (MB + 1) RB (MB + 2 + n) (MB + 2 + n + 1) w.heap.size sv S stop B) (hb : Below w.heap.size w W5) (hM : ∃ C : Array Value, W5.heap[MB]? = some (.cells C 32 (0, 0)) ∧ ∀ j, j < n → C[j]? = some (.pointer (some ⟨MB + 2 + j, 0, none⟩)))
    (f : Fr (Pp n (MB + 2 + n) (MB + 2 + n + 1) (fun j => MB + 2 + j)) W5 w6) (hx : ∀ i, i < n → w6.heap[MB + 2 + i]? = some (.cells #[.pointer (some ⟨w.heap.size + 1, 0, none⟩), .int .i64 i, .int .i64 K] 34 (0, 0))) (ht : Told w6 (MB + 2 + n) (MB + 2 + n + 1) w.heap.size W5.heap.size K stop B v1 v2) :
    Aft w (w6.alloc (.cells #[.int .i64 K, .int .i64 (sumB B K)] 40)) n K MB RB (MB + 2 + n) (MB + 2 + n + 1) w6.heap.size len pa P rel stop B v1 v2 := by
  have t7 := ht.alloc (.cells #[.int .i64 K, .int .i64 (sumB B K)] 40)
  have n7 := heap_new w6 (.cells #[.int .i64 K, .int .i64 (sumB B K)] 40)
  have f7 : Fr (Pp n (MB + 2 + n) (MB + 2 + n + 1) (fun j => MB + 2 + j)) W5 (w6.alloc (.cells #[.int .i64 K, .int .i64 (sumB B K)] 40)) := f.trans (Fr.of_below ((Below.refl _ w6).alloc (Nat.le_refl _) _))
  have x7 : ∀ i, i < n → (w6.alloc (.cells #[.int .i64 K, .int .i64 (sumB B K)] 40)).heap[MB + 2 + i]? = some (.cells #[.pointer (some ⟨w.heap.size + 1, 0, none⟩), .int .i64 i, .int .i64 K] 34 (0, 0)) := fun i hi => (Below.heap_alloc _ _ _ (block_lt (hx i hi))).trans (hx i hi)
  obtain ⟨W7, hW7⟩ : ∃ W7, W7 = w6.alloc (.cells #[.int .i64 K, .int .i64 (sumB B K)] 40) := ⟨_, rfl⟩
  rw [← hW7] at t7 n7 f7 x7 ⊢
  obtain ⟨C, hC, hCc⟩ := hM
  have hST := I.same f7 I.st (by decide) (by decide) (by decide)
  have hMB := I.same f7 hC (by decide) (by decide) (by decide)
  have hfb : Below w.heap.size W5 W7 := f7.below I.bw fun x hx' h => by
    rcases h with ⟨i, hi, e⟩ | e | e
    · have h1 : w.heap.size ≤ MB + 2 + i := I.xb i hi
      have h2 : x = MB + 2 + i := e
      omega
    · have := I.rvb; omega
    · have := I.bvb; omega
  exact ⟨hb.trans hfb, by simp [World.cell?, hST], by simp [World.cell?, t7.sa], by simp [World.cell?, n7], by simp [World.cell?, n7], by simp [World.cell?, t7.rv], by simp [World.cell?, t7.bv], fun i hi => ⟨by simp only [World.cell?, hMB]; exact hCc i hi, by simp [World.cell?, x7 i hi]⟩, I.argB f7, fun i hi => I.relc f7 hi, own_list t7.r1, own_list t7.r2⟩

set_option maxRecDepth 100000 in
set_option maxHeartbeats 4000000 in
theorem law_walk (nv : Int) (pa ra sa : Option Addr) (len pcap rlen rcap slen scap : Nat) (hor stop : Int) (P : Nat → Int) (Rl : Nat → Bool) (Sl : Nat → Int) (w : World) (hn0 : 0 ≤ nv) (hn1 : nv ≤ 255) (hl : len ≤ 1024) (hrl : rlen ≤ 1024) (hsl : slen ≤ 1024) (hh0 : -9223372036854775808 ≤ hor) (hh1 : hor ≤ 300)
    (hA : ArgB w pa len P) (hR : ArgV w ra rlen (fun j => .bool (Rl j))) (hS : ArgV w sa slen (fun j => .int .i8 (Sl j))) (hSb : ∀ j, -128 ≤ Sl j ∧ Sl j ≤ 127) :
    Calls Ybaf.prog 3 #[.int .u8 nv, .slice pa len pcap, .slice ra rlen rcap, .slice sa slen scap, .int .i64 hor, .int .i64 stop] w fun e w' => e = .returned (.bool true) ∧ Below w.heap.size w w' := by
  obtain ⟨n, hn⟩ : ∃ n : Nat, nv % 5 = (n : Int) := ⟨(nv % 5).toNat, by omega⟩
  have hn4 : n ≤ 4 := by omega
  have d1 : ¬ (1024 : Int) < (len : Int) := by omega
  have d2 : ¬ (1024 : Int) < (rlen : Int) := by omega
  have d3 : ¬ (1024 : Int) < (slen : Int) := by omega
  have d4 : ¬ (300 : Int) < hor := by omega
  have b28 := built28
  have n24 := neq24
  have HA := hide hA
  have HR := hide hR
  have HS := hide hS
  have HSb := hide hSb
  clear hA hR hS hSb
  obtain ⟨S, hSS⟩ : ∃ S : Nat → Int, ∀ i, S i = if slen = 0 then 0 else Sl (i % slen) := ⟨_, fun _ => rfl⟩
  obtain ⟨rel, hrel⟩ : ∃ rel : Nat → Bool, ∀ i, rel i = if rlen = 0 then false else Rl (i % rlen) := ⟨_, fun _ => rfl⟩
  have Hrel := hide hrel
  clear hrel
  have HSS := hide hSS
  clear hSS
  go_enter Ybaf.func3, Ybaf.ntmps3
  go_upto_if 53 with fail
  clear hn b28
  go_cut [] (fun wx => ∃ sv, St1 w wx n len pcap pa stop S sv)
  case first =>
    cases sa with
    | none =>
      go_wp2_with fail
      go_meet
      obtain ⟨a1, a2, a3⟩ := heap2 w (.cells #[.int .i64 stop] 3) (.cells #[.slice pa len pcap, .int .i64 n, .slice none 0 0, .bool false] 28)
      exact ⟨_, a3 _ (Nat.le_refl _), a1, a2, .inl rfl⟩
    | some sa0 =>
      have hmk := fun W => run_make_row' (P := Ybaf.prog) 26 3 (.int .i64 0) 8 Ybaf.underlying26 info3 rfl .i64 .i64 n (by omega) (by omega) W
      go_wp2_with fail
      clear hmk n24
      obtain ⟨a1, a2, a3, a4⟩ := heap3 w (.cells #[.int .i64 stop] 3) (.cells #[.slice pa len pcap, .int .i64 n, .slice (some ⟨w.heap.size + 1 + 1, 0, none⟩) n n, .bool false] 28) (.cells (madeCells #[.int .i64 0] n) 3)
      have a5 := Fill.new (fun i => .int .i64 (S i)) a3
      obtain ⟨W1, hW1⟩ : ∃ W1, W1 = ((w.alloc (.cells #[.int .i64 stop] 3)).alloc (.cells #[.slice pa len pcap, .int .i64 n, .slice (some ⟨w.heap.size + 1 + 1, 0, none⟩) n n, .bool false] 28)).alloc (.cells (madeCells #[.int .i64 0] n) 3) := ⟨_, rfl⟩
      rw [← hW1] at a1 a2 a4 a5 ⊢
      have H1 := hide (And.intro a1 (And.intro a2 (And.intro a4 a5)))
      clear a1 a2 a3 a4 a5 hW1
      go_loopg [15] (n) (fun gk iv wr => ∃ i, i + gk = n ∧ iv = .int .i64 i ∧ wr.heap[w.heap.size]? = some (.cells #[.int .i64 stop] 3 (0, 0)) ∧ wr.heap[w.heap.size + 1]? = some (.cells #[.slice pa len pcap, .int .i64 n, .slice (some ⟨w.heap.size + 1 + 1, 0, none⟩) n n, .bool false] 28 (0, 0)) ∧ Below w.heap.size w wr ∧ Fill wr (w.heap.size + 1 + 1) n i 3 (fun i => .int .i64 (S i)) (.int .i64 0))
      case atStart => exact ⟨0, by omega, rfl, unhide H1⟩
      case round =>
        obtain ⟨i, hig, rfl, h1, h2, h3, h4⟩ := hrel
        by_cases hin : i < n
        · by_cases hs0 : slen = 0
          · have h5 := h4.skip (by show Value.int .i64 (S i) = _; rw [(unhide HSS) i, if_pos hs0])
            have H := hide (And.intro h1 (And.intro h2 (And.intro h3 h5)))
            have hs0' : ¬ (0 : Int) < (slen : Int) := by omega
            clear h1 h2 h3 h4 h5 hs0
            go_wp2_with fail
            go_roundg (gk - 1)
            case measure => omega
            case rel => exact ⟨i + 1, by omega, by go_num, unhide H⟩
          · have hs0' : (0 : Int) < (slen : Int) := by omega
            have hs1 : ¬ (slen : Int) = 0 := by omega
            obtain ⟨b, o, hab, hcs⟩ := (unhide HS) (by omega)
            cases hab
            obtain ⟨q, hq⟩ : ∃ q, q = i % slen := ⟨_, rfl⟩
            have hqi : (i : Int) % (slen : Int) = (q : Int) := by rw [hq]; push_cast; rfl
            have hql : q < slen := by rw [hq]; exact Nat.mod_lt _ (by omega)
            have hc1 := hcs q hql
            have hc2 : wr.cell? ⟨b, o + q, none⟩ = some (.int .i8 (Sl q)) := (h3.cell (p := ⟨b, o + q, none⟩) (World.block_lt_of_cell? w _ hc1)).trans hc1
            have hSi : S i = Sl q := by rw [(unhide HSS) i, if_neg hs0, hq]
            obtain ⟨hz0, hz1⟩ := (unhide HSb) q
            obtain ⟨hf1, hf2⟩ := h4.has hin
            rw [if_neg (by omega)] at hf1
            have hst : wr.cell? ⟨w.heap.size + 1, 2, none⟩ = some (.slice (some ⟨w.heap.size + 1 + 1, 0, none⟩) n n) := by simp [World.cell?, h2]
            have h5 := h4.set hin
            have hg1 : (wr.setCell ⟨w.heap.size + 1 + 1, i, none⟩ (.int .i64 (S i))).heap[w.heap.size]? = wr.heap[w.heap.size]? := Below.heap_setCell _ _ _ _ (by show w.heap.size ≠ w.heap.size + 1 + 1; omega)
            have hg2 : (wr.setCell ⟨w.heap.size + 1 + 1, i, none⟩ (.int .i64 (S i))).heap[w.heap.size + 1]? = wr.heap[w.heap.size + 1]? := Below.heap_setCell _ _ _ _ (by show w.heap.size + 1 ≠ w.heap.size + 1 + 1; omega)
            have h6 : Below w.heap.size w (wr.setCell ⟨w.heap.size + 1 + 1, i, none⟩ (.int .i64 (S i))) := h3.setCell (by show w.heap.size ≤ w.heap.size + 1 + 1; omega) _
            have H := hide (And.intro (hg1.trans h1) (And.intro (hg2.trans h2) (And.intro h6 h5)))
            rw [hSi] at H
            clear h1 h2 h3 h4 h5 h6 hg1 hg2 hSi hcs hc1 hs0 hq
            generalize Sl q = z at hc2 hz0 hz1 H
            go_upto_region 13 with fail
            go_region
            all_goals
              go_wp2_with fail
              go_roundg (gk - 1)
              case measure => omega
              case rel => exact ⟨i + 1, by omega, by go_num, (unhide H).1, (unhide H).2.1, (unhide H).2.2.1.drew, (unhide H).2.2.2⟩
        · have hin' : i = n := by omega
          go_wp2_with fail
          go_meet
          exact ⟨_, h3, h1, h2, .inr ⟨_, rfl, by rw [hin'] at h4; exact h4⟩⟩
  case rest =>
    obtain ⟨sv, hst1⟩ := hcut
    have H1 := hide hst1
    clear hst1 n24
    have hmk1 := fun W => run_make_row' (P := Ybaf.prog) 23 4 (.bool false) 1 Ybaf.underlying23 info4 rfl .i64 .i64 n (by omega) (by omega) W
    have hmk2 := fun W => run_make_row' (P := Ybaf.prog) 30 32 (.pointer none) 8 Ybaf.underlying30 info32 rfl .i64 .i64 n (by omega) (by omega) W
    have hmk3 := fun W => run_make_row' (P := Ybaf.prog) 31 36 .nilIface 16 Ybaf.underlying31 info36 rfl .i64 .i64 n (by omega) (by omega) W
    go_wp2_with fail
    have a1 := Fill.new (fun i => .bool (rel i)) (heap_new wc (.cells (madeCells #[.bool false] n) 4))
    have a2 : Below wc.heap.size wc (wc.alloc (.cells (madeCells #[.bool false] n) 4)) := (Below.refl _ wc).alloc (Nat.le_refl _) _
    obtain ⟨W1, hW1⟩ : ∃ W1, W1 = wc.alloc (.cells (madeCells #[.bool false] n) 4) := ⟨_, rfl⟩
    rw [← hW1] at a1 a2 ⊢
    obtain ⟨RB, hRB⟩ : ∃ RB, RB = wc.heap.size := ⟨_, rfl⟩
    rw [← hRB] at a1 a2 ⊢
    have H2 := hide (And.intro a1 a2)
    have HRB := hide hRB
    clear a1 a2 hW1 hRB
    go_loopg [17] (n) (fun gk iv wr => ∃ i, i + gk = n ∧ iv = .int .i64 i ∧ Fill wr RB n i 4 (fun i => .bool (rel i)) (.bool false) ∧ Below RB wc wr)
    case atStart => exact ⟨0, by omega, rfl, unhide H2⟩
    case round =>
      clear H2
      obtain ⟨i, hig, rfl, h1, h2⟩ := hrel
      by_cases hin : i < n
      · by_cases hs0 : rlen = 0
        · have h5 := h1.skip (by show Value.bool (rel i) = _; rw [(unhide Hrel) i, if_pos hs0])
          have H := hide (And.intro h5 h2)
          have hs0' : ¬ (0 : Int) < (rlen : Int) := by omega
          clear h1 h2 h5 hs0
          go_wp2_with fail
          go_roundg (gk - 1)
          case measure => omega
          case rel => exact ⟨i + 1, by omega, by go_num, unhide H⟩
        · have hs0' : (0 : Int) < (rlen : Int) := by omega
          have hs1 : ¬ (rlen : Int) = 0 := by omega
          obtain ⟨b, o, hab, hcs⟩ := (unhide HR) (by omega)
          cases hab
          obtain ⟨q, hq⟩ : ∃ q, q = i % rlen := ⟨_, rfl⟩
          have hqi : (i : Int) % (rlen : Int) = (q : Int) := by rw [hq]; push_cast; rfl
          have hql : q < rlen := by rw [hq]; exact Nat.mod_lt _ (by omega)
          have hc1 := hcs q hql
          have hlt := World.block_lt_of_cell? w _ hc1
          have hc2 : wr.cell? ⟨b, o + q, none⟩ = some (.bool (Rl q)) := (h2.cell (p := ⟨b, o + q, none⟩) (by rw [unhide HRB]; exact Nat.lt_of_lt_of_le hlt (unhide H1).be.size)).trans (((unhide H1).be.cell (p := ⟨b, o + q, none⟩) hlt).trans hc1)
          have hSi : rel i = Rl q := by rw [(unhide Hrel) i, if_neg hs0, hq]
          obtain ⟨hf1, hf2⟩ := h1.has hin
          rw [if_neg (by omega)] at hf1
          have h5 := h1.set hin
          have h6 : Below RB wc (wr.setCell ⟨RB, i, none⟩ (.bool (rel i))) := h2.setCell (Nat.le_refl _) _
          have H := hide (And.intro h5 h6)
          rw [hSi] at H
          clear h1 h2 h5 h6 hSi hcs hc1 hs0 hq hlt
          generalize Rl q = z at hc2 H
          go_wp2_with fail
          go_roundg (gk - 1)
          case measure => omega
          case rel => exact ⟨i + 1, by omega, by go_num, unhide H⟩
      · have hin' : i = n := by omega
        rw [hin'] at h1
        clear hin'
        obtain ⟨W2, rfl⟩ : ∃ W2 : World, W2 = wr := ⟨_, rfl⟩
        have H3 := hide (And.intro h1 h2)
        clear h1 h2
        go_wp2_with fail
        clear hmk1 hmk2 hmk3
        obtain ⟨a1, a2, a3⟩ := heap2 W2 (.cells (madeCells #[.pointer none] n) 32) (.cells (madeCells #[.nilIface] n) 36)
        have a4 := Fill.new (fun j => .pointer (some ⟨W2.heap.size + 2 + j, 0, none⟩)) a1
        have a5 := Fill.new (fun j => .iface 32 (.pointer (some ⟨W2.heap.size + 2 + j, 0, none⟩))) a2
        have a6 := a3 _ (Nat.le_refl _)
        have a7 : ((W2.alloc (.cells (madeCells #[.pointer none] n) 32)).alloc (.cells (madeCells #[.nilIface] n) 36)).heap.size = W2.heap.size + 2 := by rw [World.size_alloc, World.size_alloc]
        obtain ⟨W3, hW3⟩ : ∃ W3, W3 = (W2.alloc (.cells (madeCells #[.pointer none] n) 32)).alloc (.cells (madeCells #[.nilIface] n) 36) := ⟨_, rfl⟩
        rw [← hW3] at a4 a5 a6 a7 ⊢
        obtain ⟨MB, hMB⟩ : ∃ MB, MB = W2.heap.size := ⟨_, rfl⟩
        rw [← hMB] at a4 a5 a6 a7 ⊢
        have H4 := hide (And.intro a7 (And.intro a6 (And.intro a4 a5)))
        have HMB := hide hMB
        clear a1 a2 a3 a4 a5 a6 a7 hW3 hMB
        have b34 := built34
        go_loopg [20] (n) (fun gk iv wr => ∃ i, i + gk = n ∧ iv = .int .i64 i ∧ wr.heap.size = MB + 2 + i ∧ Below MB W2 wr ∧ Fill wr MB n i 32 (fun j => .pointer (some ⟨MB + 2 + j, 0, none⟩)) (.pointer none) ∧ Fill wr (MB + 1) n i 36 (fun j => .iface 32 (.pointer (some ⟨MB + 2 + j, 0, none⟩))) .nilIface ∧ ∀ j, j < i → wr.heap[MB + 2 + j]? = some (.cells #[.pointer (some ⟨w.heap.size + 1, 0, none⟩), .int .i64 j, .int .i64 0] 34 (0, 0)))
        case atStart =>
          obtain ⟨g1, g2, g3, g4⟩ := unhide H4
          exact ⟨0, by omega, rfl, by omega, g2, g3, g4, fun j hj => absurd hj (by omega)⟩
        case round =>
          clear H4
          obtain ⟨i, hig, rfl, hsz, hbe, hm, hnn, hxs⟩ := hrel
          by_cases hin : i < n
          · obtain ⟨Wa, hWa⟩ : ∃ Wa, Wa = wr.alloc (.cells #[.pointer (some ⟨w.heap.size + 1, 0, none⟩), .int .i64 i, .int .i64 0] 34) := ⟨_, rfl⟩
            have hka : ∀ x, x < MB + 2 + i → Wa.heap[x]? = wr.heap[x]? := fun x hx => by rw [hWa]; exact Below.heap_alloc _ _ _ (by omega)
            have hxa : Wa.heap[MB + 2 + i]? = some (.cells #[.pointer (some ⟨w.heap.size + 1, 0, none⟩), .int .i64 i, .int .i64 0] 34 (0, 0)) := by rw [hWa, ← hsz]; exact heap_new wr _
            have hsa : Wa.heap.size = MB + 2 + (i + 1) := by rw [hWa, World.size_alloc, hsz]; rfl
            have hma := hm.of (hka MB (by omega))
            have hna := hnn.of (hka (MB + 1) (by omega))
            have hba : Below MB W2 Wa := by rw [hWa]; exact hbe.alloc (by omega) _
            obtain ⟨f1, f2⟩ := hma.has hin
            rw [if_neg (by omega)] at f1
            rw [hWa] at f1 f2
            -- behind mine[i] = ..
            obtain ⟨Wb, hWb⟩ : ∃ Wb, Wb = Wa.setCell ⟨MB, i, none⟩ (.pointer (some ⟨MB + 2 + i, 0, none⟩)) := ⟨_, rfl⟩
            have hmb := hma.set hin
            rw [← hWb] at hmb
            have hkb : ∀ x, x ≠ MB → Wb.heap[x]? = Wa.heap[x]? := fun x hx => by rw [hWb]; exact Below.heap_setCell _ _ _ _ hx
            have hnb := hna.of (hkb (MB + 1) (by omega))
            have hbb : Below MB W2 Wb := by rw [hWb]; exact hba.setCell (Nat.le_refl _) _
            have hsb : Wb.heap.size = MB + 2 + (i + 1) := by rw [hWb, size_set, hsa]
            obtain ⟨f3, -⟩ := hmb.has hin
            rw [if_pos (by omega)] at f3
            obtain ⟨f5, f6⟩ := hnb.has hin
            rw [if_neg (by omega)] at f5
            have Hend : Hid (∀ Wc, Wc = Wb.setCell ⟨MB + 1, i, none⟩ (.iface 32 (.pointer (some ⟨MB + 2 + i, 0, none⟩))) → Wc.heap.size = MB + 2 + (i + 1) ∧ Below MB W2 Wc ∧ Fill Wc MB n (i + 1) 32 (fun j => .pointer (some ⟨MB + 2 + j, 0, none⟩)) (.pointer none) ∧ Fill Wc (MB + 1) n (i + 1) 36 (fun j => .iface 32 (.pointer (some ⟨MB + 2 + j, 0, none⟩))) .nilIface ∧ ∀ j, j < i + 1 → Wc.heap[MB + 2 + j]? = some (.cells #[.pointer (some ⟨w.heap.size + 1, 0, none⟩), .int .i64 j, .int .i64 0] 34 (0, 0))) := hide (fun Wc hWc => by
              have hkc : ∀ x, x ≠ MB + 1 → Wc.heap[x]? = Wb.heap[x]? := fun x hx => by rw [hWc]; exact Below.heap_setCell _ _ _ _ hx
              refine ⟨by rw [hWc, size_set, hsb], by rw [hWc]; exact hbb.setCell (by show MB ≤ MB + 1; omega) _, hmb.of (hkc MB (by omega)), by rw [hWc]; exact hnb.set hin, fun j hj => ?_⟩
              rw [hkc _ (by omega), hkb _ (by omega)]
              by_cases e : j = i
              · subst e; exact hxa
              · rw [hka _ (by omega)]; exact hxs j (by omega))
            clear hka hxa hsa hma hna hba hmb hkb hnb hbb hsb hm hnn hxs hbe
            go_upto_region 26 with fail
            rw [← hWa, ← hWb]
            clear hWa hWb f1 f2
            go_wp2_with fail
            go_roundg (gk - 1)
            case measure => omega
            case rel => exact ⟨i + 1, by omega, by go_num, (unhide Hend) _ rfl⟩
          · have hin' : i = n := by omega
            rw [hin'] at hsz hm hnn hxs
            clear hin'
            obtain ⟨W4, rfl⟩ : ∃ W4 : World, W4 = wr := ⟨_, rfl⟩
            obtain ⟨I5, b5, m5⟩ := inp_of (P := P) (rel := rel) hl hn4 (unhide HA) (unhide H1) (unhide HRB) (unhide H3).1 (unhide H3).2 (unhide HMB) hsz hbe hm hnn hxs
            obtain ⟨K, hK⟩ : ∃ K, K = wantN hor stop := ⟨_, rfl⟩
            obtain ⟨B, hB⟩ : ∃ B : Nat → Int, B = fun i => bitsSum len P rel n (i + 1) n := ⟨_, rfl⟩
            rw [← hB] at I5
            obtain ⟨W5, hW5⟩ : ∃ W5, W5 = (W4.alloc (.cells #[.slice none 0 0] 26)).alloc (.cells #[.slice none 0 0] 37) := ⟨_, rfl⟩
            rw [← hW5] at I5 b5 m5
            have HRun := hide (run_walk w.heap.size n len pcap pa P rel (fun j => MB + 2 + j) (w.heap.size + 1) (MB + 1) RB (MB + 2 + n) (MB + 2 + n + 1) w.heap.size sv S stop B n n hor _ I5 (fun _ => by rw [hB]) hh0 hh1 K hK)
            have H5 := hide (And.intro I5 (And.intro b5 m5.1))
            have hst2 : W5.cell? ⟨w.heap.size + 1, 2, none⟩ = some sv := by simp [World.cell?, I5.st]
            have HK := hide hK
            have HB := hide hB
            clear I5 b5 m5 hm hnn hxs hbe hK hB
            go_upto_region 30 with fail
            rw [← hW5]
            clear hW5 hsz b34
            go_upto_region 31 with (go_at_call 5; refine (unhide HRun).mono ?_; rintro e w6 ⟨rfl, hf6, hx6, v1, v2, ht6⟩; have A7 := hide (after_run (unhide H5).1 (unhide H5).2.1 (unhide H5).2.2 hf6 hx6 ht6); clear hf6 hx6 ht6)
            obtain ⟨W7, hW7⟩ : ∃ W7, W7 = w6.alloc (.cells #[.int .i64 K, .int .i64 (sumB B K)] 40) := ⟨_, rfl⟩
            rw [← hW7] at A7 ⊢
            obtain ⟨RES, hRES⟩ : ∃ RES, RES = w6.heap.size := ⟨_, rfl⟩
            rw [← hRES] at A7 ⊢
            clear hW7 hRES H5 HRun hst2
            obtain ⟨a1, q1, hv1, -⟩ := (unhide A7).f1
            obtain ⟨a2, q2, hv2, -⟩ := (unhide A7).f2
            subst hv1 hv2
            have c1 := (unhide A7).bad
            have c2 := (unhide A7).stp
            have c3 := (unhide A7).r0
            have c4 := (unhide A7).rv
            have c5 := (unhide A7).bv
            go_upto_if 140 with fail
            go_cut [25] (fun v wx => v = .int .i64 K ∧ wx = W7)
            case first =>
              have hk := unhide HK
              unfold wantN at hk
              by_cases h0 : 0 < hor
              · rw [if_pos h0] at hk
                by_cases h1 : 1 ≤ stop
                · by_cases h2 : stop < hor
                  · rw [if_pos ⟨h1, h2⟩] at hk
                    have hkk : Hid ((K : Int) = stop) := hide (by omega)
                    clear hk
                    go_wp2_with fail
                    go_meet
                    exact ⟨by rw [unhide hkk], rfl⟩
                  · rw [if_neg (by omega)] at hk
                    have hkk : Hid ((K : Int) = hor) := hide (by omega)
                    clear hk
                    go_wp2_with fail
                    go_meet
                    exact ⟨by rw [unhide hkk], rfl⟩
                · rw [if_neg (by omega)] at hk
                  have hkk : Hid ((K : Int) = hor) := hide (by omega)
                  clear hk
                  go_wp2_with fail
                  go_meet
                  exact ⟨by rw [unhide hkk], rfl⟩
              · rw [if_neg h0] at hk
                have hkk : Hid ((K : Int) = 0) := hide (by omega)
                clear hk
                go_wp2_with fail
                go_meet
                exact ⟨by rw [unhide hkk], rfl⟩
            case rest =>
              obtain ⟨rfl, hwc⟩ := hcut
              subst hwc
              have hK300 : K ≤ 300 := by
                have hk := unhide HK
                unfold wantN at hk
                split at hk
                · split at hk <;> omega
                · omega
              go_wp2_with fail
              clear c1 c2 c3 c4 c5
              obtain ⟨V, rfl⟩ : ∃ V : World, V = wc := ⟨_, rfl⟩
              go_loopg [26] (n) (fun gk iv wr => ∃ i, i + gk = n ∧ iv = .int .i64 i ∧ wr = V)
              case atStart => exact ⟨0, by omega, rfl, rfl⟩
              case round =>
                obtain ⟨j, hjg, rfl, hwr⟩ := hrel
                by_cases hjn : j < n
                · obtain ⟨m1, m2⟩ := (unhide A7).mine j hjn
                  rw [← hwr] at m1 m2
                  have Hwr := hide hwr
                  clear hwr
                  go_wp2_with fail
                  go_roundg (gk - 1)
                  case measure => omega
                  case rel => exact ⟨j + 1, by omega, by go_num, unhide Hwr⟩
                · have Hwr := hide hwr
                  clear hwr
                  go_wp2_with fail
                  go_loopg [27, 28] (K) (fun gk tv kv wr => ∃ k, k + gk = K ∧ kv = .int .i64 ((k : Int) + 1) ∧ tv = .int .i64 (sumB B k) ∧ Below V.heap.size V wr)
                  case atStart => exact ⟨0, by omega, rfl, rfl, by rw [unhide Hwr]; exact Below.refl _ V⟩
                  case round =>
                    clear Hwr
                    obtain ⟨k, hkg, rfl, rfl, hbe⟩ := hrel
                    have hcell : ∀ {x : Addr} {v : Value}, V.cell? x = some v → wr.cell? x = some v := fun {x v} h => (hbe.cell (p := x) (World.block_lt_of_cell? V _ h)).trans h
                    by_cases hkK : k < K
                    · obtain ⟨a1', q1', e1, g1⟩ := (unhide A7).f1
                      cases e1
                      obtain ⟨g, hg, hc⟩ := g1 (by omega)
                      obtain ⟨a2', q2', e2, g2⟩ := (unhide A7).f2
                      cases e2
                      obtain ⟨h, hh, hc'⟩ := g2 (by omega)
                      subst hg hh
                      have k1 := hcell (hc k hkK)
                      have k2 := hcell (hc' k hkK)
                      have k3 := hcell (unhide A7).rv
                      have k4 := hcell (unhide A7).bv
                      have hBb : ∀ t, 0 ≤ B t ∧ B t ≤ 16000 := fun t => by
                        rw [unhide HB]
                        have h := bitsSum_bd len P rel n (t + 1) n
                        have e : (1000 : Int) * n * n = ((1000 * n * n : Nat) : Int) := by push_cast; rfl
                        have := Nat.mul_le_mul (Nat.mul_le_mul (Nat.le_refl 1000) hn4) hn4
                        show 0 ≤ bitsSum len P rel n (t + 1) n ∧ bitsSum len P rel n (t + 1) n ≤ 16000
                        omega
                      obtain ⟨sb1, sb2⟩ := sumB_bd B hBb k
                      obtain ⟨bb1, bb2⟩ := hBb k
                      have hb := bits_walk pa len pcap P RB n n (k + 1) rel wr hl hn4 (by omega) ((unhide A7).arg.keep hbe) (fun i hi => hcell ((unhide A7).rel i hi))
                      rw [show bitsSum len P rel n (k + 1) n = B k by rw [unhide HB], show ((k + 1 : Nat) : Int) = (k : Int) + 1 from by push_cast; rfl] at hb
                      have Hb := hide hb
                      have Hbe := hide hbe
                      have Hs : Hid (sumB B (k + 1) = sumB B k + B k) := hide rfl
                      clear hb hbe hcell hc hc' hBb g1 g2
                      generalize B k = Bk at k2 bb1 bb2 Hb Hs
                      generalize sumB B k = Sk at sb1 sb2 Hs ⊢
                      go_wp2_with (go_at_call 6; refine (unhide Hb).mono ?_; rintro e w8 ⟨rfl, hb8⟩; have k5 := (hb8.cell (p := ⟨h, k, none⟩) (World.block_lt_of_cell? wr _ k2)).trans k2; have k6 := (hb8.cell (p := ⟨MB + 2 + n + 1, 0, none⟩) (World.block_lt_of_cell? wr _ k4)).trans k4; have Hb8 := hide hb8; clear hb8)
                      go_roundg (gk - 1)
                      case measure => omega
                      case rel => exact ⟨k + 1, by omega, by push_cast; rfl, by rw [unhide Hs], (unhide Hbe).trans ((unhide Hb8).mono (unhide Hbe).size)⟩
                    · have hkk : k = K := by omega
                      have k1 := hcell (unhide A7).r1
                      have hfin := hide ((unhide A7).be.trans (hbe.mono (unhide A7).be.size))
                      have hkK' : ¬ (k : Int) + 1 ≤ (K : Int) := by omega
                      rw [← hkk] at k1
                      clear hbe hcell hkk
                      go_wp2_with fail
                      go_ret
                      exact ⟨rfl, unhide hfin⟩

end Go.Proofs.YbulkbsnkFmt
