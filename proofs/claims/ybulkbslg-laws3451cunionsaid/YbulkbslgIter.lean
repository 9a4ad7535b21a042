/-
  Seat b3451a: 'slices.Sorted(slices.Values(values))' at []string. The shelf's contracts on slices.AppendSeq, Collect, Sorted (Derived/Shelf/SlIter) take an iterator that reads no memory between two rounds ('SeqGives'); slices.Values reads its slice there. So: 'GivesB', the same contract for loop bodies that keep what lay before ('Below'), and the shelf's three proofs turned to it.
-/
import Derived.Test.YbulkbslgHas
import Derived.Shelf.SlIter.Nil
namespace Go.Proofs.Ybulkbslg
open Go.RowKit Go.Maps Go.Sort Go.Shelf

/-- An iterator value, handed loop bodies under which what lay in w lies as it lay. -/
def GivesB {α : Type} (F : Fence) (n : Nat) (P : Program) (g : Nat) (lb : Array Value) (enc : α → Value) (S : List α → Prop) (N : Nat) (w : World) : Prop :=
  ∀ (l : Nat) (J : List α → World → Prop) (W : World), Below w.heap.size w W → (∀ s W1, J s W1 → Below w.heap.size w W1) → AbidesFrom W.heap.size J →
    (∀ pre x W1, J pre W1 → pre.length < N → YieldAt F (n - 1) P l #[enc x] W1 fun e W' => e = .returned (.bool true) ∧ J (pre ++ [x]) W' ∧ KeepsWalks W1 W') →
    J [] W →
    CallsIn F n P g (#[.func (.yield l) #[] #[]] ++ lb) W fun e W' => (∃ v, e = .returned v) ∧ ∃ xs, S xs ∧ J xs W'

theorem GivesB.bounded {α : Type} {F : Fence} {n : Nat} {P : Program} {g : Nat} {lb : Array Value} {enc : α → Value} {S : List α → Prop} {N : Nat} {w : World}
    (h : GivesB F n P g lb enc S N w) : GivesB F n P g lb enc (fun xs => S xs ∧ xs.length ≤ N) N w := fun l J W hW hB hJ hY h0 => by
  refine (h l (fun xs W' => J xs W' ∧ xs.length ≤ N) W hW (fun s W1 hs => hB s W1 hs.1) (fun s A B row hs hg hr => ⟨hJ s A B row hs.1 hg hr, hs.2⟩)
    (fun pre x W1 hj hl => (hY pre x W1 hj.1 hl).mono (fun e w' hr => ⟨hr.1, ⟨hr.2.1, by simp; omega⟩, hr.2.2⟩)) ⟨h0, Nat.zero_le _⟩).mono ?_
  rintro e W' ⟨hv, xs, hS, hJ', hlen⟩
  exact ⟨hv, xs, ⟨hS, hlen⟩, hJ'⟩

section
variable {P : Program} {ρ : Ren}

set_option maxRecDepth 100000 in
set_option maxHeartbeats 2000000 in
theorem appendSeq_in (L : SlLaysZ.n11 P ρ) (F : Fence) (n : Nat) (h11 : F.fn (ρ.f 11)) (hro : F.round = none) (hn : 2 ≤ n) (g : Nat) (lb : Array Value) (hFg : F.fn g) (eg : ∀ args w, (callFunc g args).run P w = .ok (.enter g args) w)
    (S : List (List UInt8) → Prop) (N : Nat) (hN : N ≤ maxLen) (hNb : N * 16 ≤ 140737488355328) (w : World) (hseq : GivesB F (n - 1) P g lb encStr S N w) :
    CallsIn F n P (ρ.f 11) #[.slice none 0 0, .func (.func g) #[] lb] w fun e w' => ∃ (v : Value) (ss : List (List UInt8)), e = .returned v ∧ S ss ∧ w'.ownsRow w.heap.size (ρ.t 26) 1 v ss.length (ss.map encStr) ∧ (v = .slice none 0 0 ↔ ss = []) ∧ Below w.heap.size w w' := by
  have h1 : 1 ≤ n := by omega
  have mixed := L.mixed; have t0 := L.t0; have a0 := L.a0; have z0 := L.z0; have v0 := L.v0; have t24 := L.t24; have a24 := L.a24; have z24 := L.z24; have v24 := L.v24; have t26 := L.t26; have a26 := L.a26; have z26 := L.z26; have v26 := L.v26; have t28 := L.t28; have a28 := L.a28; have z28 := L.z28; have v28 := L.v28
  have hne : ρ.t 24 ≠ ρ.t 26 := fun e => by have h := L.t24; rw [e, L.t26] at h; cases h
  have u0 := run_underlying L.t0; have u24 := run_underlying L.t24; have u26 := run_underlying L.t26; have u28 := run_underlying L.t28
  obtain ⟨_, _, FG⟩ := L.f11
  refine callsIn_of_wp_marks FG rfl h11 ?_ hro
  simp only [SlBodyZ.n11_ntmps ρ, List.size_toArray, List.length_cons, List.length_nil, Nat.reduceAdd, Nat.reduceSub, Array.replicate_succ, Array.replicate_zero, List.push_toArray, List.append_toArray, List.nil_append, List.cons_append]
  gi_wp2
  refine wpIn_rangeFunc ?_
  intro fn hfn
  rw [hro]
  obtain ⟨W0, hW0⟩ : ∃ W0, w.alloc (.cells #[.slice none 0 0] (ρ.t 24)) = W0 := ⟨_, rfl⟩
  have hs0 : W0.heap.size = w.heap.size + 1 := by rw [← hW0]; simp
  have hv0 : W0.heap[w.heap.size]? = some (.cells #[.slice none 0 0] (ρ.t 24) (0, 0)) := by rw [← hW0]; exact World.alloc_heap_new w _
  have hb0 : Below w.heap.size w W0 := by rw [← hW0]; exact (Below.refl _ w).alloc (Nat.le_refl _) _
  rw [hW0]
  obtain ⟨W1, hW1⟩ : ∃ W1, (W0.alloc (.deferred (some []))).alloc (.loop (AnyZ.apRec ρ fn (.func (.func g) #[] lb) w.heap.size W0.heap.size .ready none)) = W1 := ⟨_, rfl⟩
  have hold : ∀ k, k < W0.heap.size → W1.heap[k]? = W0.heap[k]? := fun k hk => by
    rw [← hW1]; exact (Below.heap_alloc _ _ k (by simp; omega)).trans (Below.heap_alloc _ _ k hk)
  have hb1 : Below w.heap.size w W1 := by rw [← hW1]; exact (hb0.alloc hb0.size _).alloc (by have := hb0.size; simp; omega) _
  have hs1 : W1.heap.size = W0.heap.size + 2 := by rw [← hW1]; simp
  have hM : AnyZ.ApAt ρ w fn (.func (.func g) #[] lb) w.heap.size (W0.heap.size + 1) W0.heap.size [] W1 :=
    ⟨⟨_, (hold w.heap.size (by omega)).trans hv0, ⟨rfl, .inl ⟨rfl, rfl⟩⟩, by simp⟩,
     by rw [← hW1]; have := World.alloc_heap_new (W0.alloc (.deferred (some []))) (.loop (AnyZ.apRec ρ fn (.func (.func g) #[] lb) w.heap.size W0.heap.size .ready none)); rwa [World.size_alloc] at this,
     by rw [← hW1]; exact (Below.heap_alloc _ _ _ (by simp)).trans (World.alloc_heap_new W0 _), hb1⟩
  refine ⟨W0.heap.size + 1, [{ target := .collected W0.heap.size, args := #[] }], W1, { target := .fn (.func g) lb, args := #[.func (.yield (W0.heap.size + 1)) #[] #[]] }, W1, g,
    #[.func (.yield (W0.heap.size + 1)) #[] #[]] ++ lb, W1, ?_, ?_, ?_, ?_, fun _ => h1, ?_⟩
  · rw [← hW1]; exact run_enterLoop_outer _ _ _ _ _
  · simp [resolve, go_sem]
  · intro f' hf'; simp [Target.leads] at hf'; subst hf'; exact hFg
  · simp [invoke, go_sem, eg]
  · refine (hseq (W0.heap.size + 1) (AnyZ.ApAt ρ w fn (.func (.func g) #[] lb) w.heap.size (W0.heap.size + 1) W0.heap.size) W1 hb1 (fun _ _ h => h.below) (AnyZ.ap_abides ρ _ _ _ _ _ _ _ hb1.size)
      (fun pre x W hJ hl => AnyZ.apYield { L with } F (n - 1 - 1) w fn hfn _ w.heap.size (W0.heap.size + 1) W0.heap.size (by omega) (by omega) (by omega) (Nat.le_refl _) (by omega) N hN hNb pre x W hJ hl) hM).mono ?_
    rintro e W2 ⟨⟨v0, rfl⟩, ss, hS, h2⟩
    obtain ⟨v, hv, hrow, hnil⟩ := h2.box
    have hend := run_endLoop (P := P) h2.L (by simp [AnyZ.apRec])
    obtain ⟨W3, hW3⟩ : ∃ W3, W2.putObj (W0.heap.size + 1) (.loop { AnyZ.apRec ρ fn (.func (.func g) #[] lb) w.heap.size W0.heap.size .ready none with state := .exhausted }) = W3 := ⟨_, rfl⟩
    rw [hW3] at hend
    have hg3 : W2.grownBy W3 (some (W0.heap.size + 1)) := by rw [← hW3]; exact grownBy_putObj_a _ _ _
    have hv3 : W3.heap[w.heap.size]? = some (.cells #[v] (ρ.t 24) (0, 0)) := by rw [← hW3]; exact (World.putObj_heap_other (by omega)).trans hv
    have hK3 : W3.heap[W0.heap.size]? = some (.deferred (some [])) := by rw [← hW3]; exact (World.putObj_heap_other (by omega)).trans h2.K
    have hrow3 := hrow.kept hg3 (ownsRow_ne_a hrow h2.L (fun cur e => by first | cases e | exact hne (Obj.cells.inj e).2.1))
    have hb3 : Below w.heap.size w W3 := h2.below.grown hg3 h2.below.size (fun k e => by cases e; omega)
    obtain ⟨hc3, hf3⟩ := cell_of_box_a hv3
    clear hW3
    refine ⟨none, W3, hend, ?_⟩
    gi_wp2
    rw [← hs0]
    refine ⟨by simp, .inl ⟨_, _, rfl, run_takeDeferred hK3, ?_⟩⟩
    exact ⟨_, results_tmp rfl _ _ _, v, ss, rfl, hS, hrow3.kept (grownBy_putObj_a _ _ _) (ownsRow_ne_a hrow3 hK3 (fun cur e => by first | cases e | exact hne (Obj.cells.inj e).2.1)), hnil, hb3.grown (grownBy_putObj_a _ _ _) hb3.size (fun k e => by cases e; omega)⟩


set_option maxHeartbeats 1000000 in
theorem collect_in (L : SlLaysZ.n8 P ρ) (F : Fence) (n : Nat) (h8 : F.fn (ρ.f 8)) (h11 : F.fn (ρ.f 11)) (hro : F.round = none) (hn : 3 ≤ n) (g : Nat) (lb : Array Value) (hFg : F.fn g) (eg : ∀ args w, (callFunc g args).run P w = .ok (.enter g args) w)
    (S : List (List UInt8) → Prop) (N : Nat) (hN : N ≤ maxLen) (hNb : N * 16 ≤ 140737488355328) (w : World) (hseq : GivesB F (n - 1 - 1) P g lb encStr S N w) :
    CallsIn F n P (ρ.f 8) #[.func (.func g) #[] lb] w fun e w' => ∃ (v : Value) (ss : List (List UInt8)), e = .returned v ∧ S ss ∧ w'.ownsRow w.heap.size (ρ.t 26) 1 v ss.length (ss.map encStr) ∧ (v = .slice none 0 0 ↔ ss = []) ∧ Below w.heap.size w w' := by
  have h1 : 1 ≤ n := by omega
  have e11 : ∀ args w, (callFunc (ρ.f 11) args).run P w = .ok (.enter (ρ.f 11) args) w := L.f11.enters rfl
  have mixed := L.mixed; have t0 := L.t0; have a0 := L.a0; have z0 := L.z0; have v0 := L.v0; have t24 := L.t24; have a24 := L.a24; have z24 := L.z24; have v24 := L.v24; have t26 := L.t26; have a26 := L.a26; have z26 := L.z26; have v26 := L.v26; have t28 := L.t28; have a28 := L.a28; have z28 := L.z28; have v28 := L.v28
  have u0 := run_underlying L.t0; have u24 := run_underlying L.t24; have u26 := run_underlying L.t26; have u28 := run_underlying L.t28
  obtain ⟨_, _, FG⟩ := L.f8
  refine callsIn_of_wp FG rfl h8 ?_ hro
  simp only [SlBodyZ.n8_ntmps ρ, List.size_toArray, List.length_cons, List.length_nil, Nat.reduceAdd, Nat.reduceSub, Array.replicate_succ, Array.replicate_zero, List.push_toArray, List.append_toArray, List.nil_append, List.cons_append]
  gi_wp2_with (gi_at_fn (ρ.f 11); refine (appendSeq_in { L with } F (n - 1) h11 hro (by omega) g lb hFg eg S N hN hNb _ hseq).mono ?_; rintro e w' ⟨v, ss, rfl, hS, hrow, hnil, hb⟩)
  go_ret
  exact ⟨v, ss, rfl, hS, hrow, hnil, hb⟩

set_option maxRecDepth 100000 in
set_option maxHeartbeats 2000000 in
theorem sorted_in (L : SlLaysZ.n6 P ρ) (F : Fence) (n : Nat) (h6 : F.fn (ρ.f 6)) (h8 : F.fn (ρ.f 8)) (h9 : F.fn (ρ.f 9)) (h11 : F.fn (ρ.f 11)) (hro : F.round = none) (hn : 4 ≤ n) (hsort : AnyZ.SortsIn P ρ F (n - 1)) (e9 : ∀ args w, (callFunc (ρ.f 9) args).run P w = .ok (.enter (ρ.f 9) args) w) (g : Nat) (lb : Array Value) (hFg : F.fn g) (eg : ∀ args w, (callFunc g args).run P w = .ok (.enter g args) w)
    (S : List (List UInt8) → Prop) (N : Nat) (hN : N ≤ maxLen) (hNb : N * 16 ≤ 140737488355328) (w : World) (hseq : GivesB F (n - 1 - 1 - 1) P g lb encStr S N w) :
    CallsIn F n P (ρ.f 6) #[.func (.func g) #[] lb] w fun e w' => ∃ (v : Value) (ss : List (List UInt8)), e = .returned v ∧ S ss ∧
      w'.ownsRow w.heap.size (ρ.t 26) 1 v ss.length ((ss.mergeSort (fun x y => decide (x ≤ y))).map encStr) ∧ (v = .slice none 0 0 ↔ ss = []) ∧ Below w.heap.size w w' := by
  have h1 : 1 ≤ n := by omega
  have e8 : ∀ args w, (callFunc (ρ.f 8) args).run P w = .ok (.enter (ρ.f 8) args) w := L.f8.enters rfl
  have mixed := L.mixed; have t0 := L.t0; have a0 := L.a0; have z0 := L.z0; have v0 := L.v0; have t24 := L.t24; have a24 := L.a24; have z24 := L.z24; have v24 := L.v24; have t26 := L.t26; have a26 := L.a26; have z26 := L.z26; have v26 := L.v26; have t28 := L.t28; have a28 := L.a28; have z28 := L.z28; have v28 := L.v28
  have u0 := run_underlying L.t0; have u24 := run_underlying L.t24; have u26 := run_underlying L.t26; have u28 := run_underlying L.t28
  obtain ⟨_, _, FG⟩ := L.f6
  refine callsIn_of_wp FG rfl h6 ?_ hro
  simp only [SlBodyZ.n6_ntmps ρ, List.size_toArray, List.length_cons, List.length_nil, Nat.reduceAdd, Nat.reduceSub, Array.replicate_succ, Array.replicate_zero, List.push_toArray, List.append_toArray, List.nil_append, List.cons_append]
  gi_wp2_with (gi_at_fn (ρ.f 8); refine (collect_in { L with } F (n - 1) h8 h11 hro (by omega) g lb hFg eg _ N hN hNb _ hseq.bounded).mono ?_; rintro e W ⟨v, ss, rfl, ⟨hS, hlen⟩, hrow, hnil, hb⟩)
  rcases hrow.2 with ⟨rfl, hz⟩ | ⟨gb, cap, cur, rfl, hbase, hgb, r1, r2, r3, r4⟩
  · -- nothing came: the nil slice is sorted and handed back
    have hss : ss = [] := List.eq_nil_of_length_eq_zero hz
    subst hss
    gi_wp2_with (gi_at_fn (ρ.f 9); refine (hsort.2 none 0 W).mono ?_; rintro e w' ⟨rfl, rfl⟩)
    go_ret
    exact ⟨.slice none 0 0, [], rfl, hS, by simpa using hrow, by simp, hb⟩
  · have hH : Holds encStr W gb 0 ss.toArray := holds_of_block hgb (by simpa using r4)
    have hgl : gb < W.heap.size := (Array.getElem?_eq_some_iff.1 hgb).1
    have hsz : ss.length < 4611686018427387904 := by omega
    have cS := hsort.1 gb 0 cap ss W hH hgl hsz
    gi_wp2_with (gi_at_fn (ρ.f 9); refine cS.mono ?_; rintro e w' ⟨rfl, nn, os, rfl⟩)
    go_ret
    exact ⟨_, ss, rfl, hS, ownsRow_sorted (by simp) hbase hgb r1 r2 r3, hnil, hb.grown (grownBy_sorted _) hb.size (fun j hj => by cases hj; exact hbase)⟩


end

theorem encStr_of (s : ByteArray) : encStr s.data.toList = .string s := by simp [encStr]

def upto (S : Nat → ByteArray) (k : Nat) : List (List UInt8) := (List.range k).map fun j => (S j).data.toList
theorem upto_succ (S : Nat → ByteArray) (k : Nat) : upto S (k + 1) = upto S k ++ [(S k).data.toList] := by simp [upto, List.range_succ]
theorem upto_length (S : Nat → ByteArray) (k : Nat) : (upto S k).length = k := by simp [upto]

set_option maxRecDepth 100000 in
set_option maxHeartbeats 1000000 in
theorem values1_in (F : Fence) (n : Nat) (h14 : F.fn 14) (hro : F.round = none) (hn : 1 ≤ n) (l Bs b off len cap : Nat) (S : Nat → ByteArray) (hlen : len ≤ 9223372036854775807) (w0 : World) (hb : b < w0.heap.size)
    (J : List (List UInt8) → World → Prop) (hB : ∀ s W1, J s W1 → Below w0.heap.size w0 W1)
    (hY : ∀ pre x W, J pre W → pre.length < len → YieldAt F (n - 1) Yba.prog l #[encStr x] W fun e W' => e = .returned (.bool true) ∧ J (pre ++ [x]) W' ∧ KeepsWalks W W')
    (W : World) (hBs : W.cell? ⟨Bs, 0, none⟩ = some (.slice (some ⟨b, off, none⟩) len cap)) (hc : ∀ j, j < len → w0.cell? ⟨b, off + j, none⟩ = some (.string (S j))) (h0 : J [] W) :
    CallsIn F n Yba.prog 14 #[.func (.yield l) #[] #[], .pointer (some ⟨Bs, 0, none⟩)] W fun e W' => (∃ v, e = .returned v) ∧ J (upto S len) W' := by
  refine callsIn_of_wp Yba.func14 rfl h14 ?_ hro
  simp only [Yba.ntmps14, List.size_toArray, List.length_cons, List.length_nil, Nat.reduceAdd, Nat.reduceSub, Array.replicate_succ, Array.replicate_zero, List.push_toArray, List.append_toArray, List.nil_append, List.cons_append]
  gi_wp2
  gi_loopw [7] (fun i wr => ∃ k : Nat, k ≤ len ∧ i = .int .i64 k ∧ J (upto S k) wr) (fun i _ => len - (intOf i).toNat)
  case atStart => exact ⟨0, Nat.zero_le _, rfl, h0⟩
  case round =>
    obtain ⟨k, hk, rfl, hJs⟩ := hrel
    by_cases hlt : k < len
    · have hcx : wr.cell? ⟨b, off + k, none⟩ = some (.string (S k)) := ((hB _ _ hJs).cell (p := ⟨b, off + k, none⟩) hb).trans (hc k hlt)
      obtain ⟨fn, tmps, assign, body, hy, hR⟩ := hY _ (S k).data.toList wr hJs (by rw [upto_length]; exact hlt)
      rw [encStr_of] at hy
      clear hc hB
      gi_wp2
      refine hR.mono ?_
      rintro e W3 ⟨rfl, hJ3, _⟩
      gi_wp2
      go_roundw
      case rel => exact ⟨k + 1, by omega, by go_num, by rw [upto_succ]; exact hJ3⟩
      case measure => simp [intOf]; omega
    · obtain rfl : k = len := by omega
      gi_wp2
      go_end0
      exact ⟨⟨_, rfl⟩, hJs⟩

set_option maxHeartbeats 1000000 in
/-- 'slices.Values(s)': the slice value is boxed; the function value captures the box. -/
theorem values_in (F : Fence) (n : Nat) (h10 : F.fn 10) (hro : F.round = none) (a : Option Addr) (len cap : Nat) (w : World) :
    CallsIn F n Yba.prog 10 #[.slice a len cap] w fun e w' => e = .returned (.func (.func 14) #[] #[.pointer (some ⟨w.heap.size, 0, none⟩)]) ∧ w' = w.alloc (.cells #[.slice a len cap] 23) := by
  refine callsIn_of_wp Yba.func10 rfl h10 ?_ hro
  simp only [Yba.ntmps10, List.size_toArray, List.length_cons, List.length_nil, Nat.reduceAdd, Nat.reduceSub, Array.replicate_succ, Array.replicate_zero, List.push_toArray, List.append_toArray, List.nil_append, List.cons_append]
  gi_wp2
  go_ret
  exact ⟨rfl, rfl⟩

theorem values_gives (F : Fence) (n : Nat) (h14 : F.fn 14) (hro : F.round = none) (hn : 1 ≤ n) (b off len cap : Nat) (S : Nat → ByteArray) (hlen : len ≤ 9223372036854775807) (w : World) (hb : b < w.heap.size)
    (hc : ∀ j, j < len → w.cell? ⟨b, off + j, none⟩ = some (.string (S j))) :
    GivesB F n Yba.prog 14 #[.pointer (some ⟨w.heap.size, 0, none⟩)] encStr (fun xs => xs = upto S len) len (w.alloc (.cells #[.slice (some ⟨b, off, none⟩) len cap] 23)) := fun l J W hW hB _ hY h0 => by
  have hcell : (w.alloc (.cells #[.slice (some ⟨b, off, none⟩) len cap] 23)).cell? ⟨w.heap.size, 0, none⟩ = some (.slice (some ⟨b, off, none⟩) len cap) := by simp
  refine (values1_in F n h14 hro hn l w.heap.size b off len cap S hlen _ (by simp; omega) J hB hY W ((hW.cell (p := ⟨w.heap.size, 0, none⟩) (by simp)).trans hcell)
    (fun j hj => (Below.cell (((Below.refl w.heap.size w).alloc (Nat.le_refl _) (.cells #[.slice (some ⟨b, off, none⟩) len cap] 23))) (p := ⟨b, off + j, none⟩) hb).trans (hc j hj)) h0).mono ?_
  rintro e W' ⟨hv, hj⟩
  exact ⟨hv, _, rfl, hj⟩

end Go.Proofs.Ybulkbslg
