/-
  Seat b3455aF: (*zzs3455cnode).Step (26).
-/
import Derived.Test.YbulkbsnkFmtBits
import Derived.Deep.AppendLies
import Derived.Deep.RegionLaw
import Derived.Maps.AppendAt
namespace Go.Proofs.YbulkbsnkFmt
open Go.RowKit
set_option linter.unusedVariables false

theorem info47 : (Ybaf.prog.info? 47).map (fun i => (i.zero, i.size, i.bytes)) = some (some (.slice none 0 0), 1, 24) := by kernel_rfl

/-- Only the blocks that p names, and new ones, may have changed. -/
structure Fr (p : Nat → Prop) (W W' : World) : Prop where
  os : W'.os = W.os
  tape : W'.tape = W.tape
  output : W'.output = W.output
  size : W.heap.size ≤ W'.heap.size
  block : ∀ k, k < W.heap.size → ¬ p k → W'.heap[k]? = W.heap[k]?

theorem Fr.refl (p : Nat → Prop) (W : World) : Fr p W W := ⟨rfl, rfl, rfl, Nat.le_refl _, fun _ _ _ => rfl⟩
theorem Fr.trans {p : Nat → Prop} {A B C : World} (h : Fr p A B) (k : Fr p B C) : Fr p A C :=
  ⟨k.os.trans h.os, k.tape.trans h.tape, k.output.trans h.output, Nat.le_trans h.size k.size, fun i hi hp => (k.block i (Nat.lt_of_lt_of_le hi h.size) hp).trans (h.block i hi hp)⟩
theorem Fr.mono {p q : Nat → Prop} {A B : World} (h : Fr p A B) (hpq : ∀ k, k < A.heap.size → p k → q k) : Fr q A B :=
  ⟨h.os, h.tape, h.output, h.size, fun i hi hq => h.block i hi (fun hp => hq (hpq i hi hp))⟩
theorem Fr.of_below {p : Nat → Prop} {A B : World} (h : Below A.heap.size A B) : Fr p A B := ⟨h.os, h.tape, h.output, h.size, fun i hi _ => h.block i hi⟩
theorem Fr.set {p : Nat → Prop} {A : World} {a : Addr} {v : Value} (hp : p a.block) : Fr p A (A.setCell a v) :=
  ⟨rfl, rfl, rfl, by simp [World.setCell], fun i hi hq => Below.heap_setCell _ _ _ _ (fun e => hq (e ▸ hp))⟩
theorem Fr.below {p : Nat → Prop} {A B : World} {N : Nat} (h : Fr p A B) (hN : N ≤ A.heap.size) (hp : ∀ k, k < N → ¬ p k) : Below N A B :=
  ⟨h.os, h.tape, h.output, h.size, fun i hi => h.block i (by omega) (hp i hi)⟩
theorem Fr.grown {p : Nat → Prop} {A B : World} {row : Option Nat} (hg : A.grownBy B row) (hp : ∀ k, row = some k → p k) : Fr p A B :=
  ⟨hg.os, hg.tape, hg.output, hg.size, fun i hi hq => hg.block i hi (fun e => hq (hp i e.symm))⟩

theorem block_lt {w : World} {b : Nat} {o : Obj} (h : w.heap[b]? = some o) : b < w.heap.size := by
  rcases Nat.lt_or_ge b w.heap.size with h' | h'
  · exact h'
  · rw [Array.getElem?_eq_none h'] at h; cases h

theorem IsMsg.of {w w' : World} {v : Value} {o : Option Nat} {k r : Nat} (h : IsMsg w v o k r) (hh : ∀ (b : Nat) (cs : Array Value), w.heap[b]? = some (.cells cs 5 (0, 0)) → w'.heap[b]? = w.heap[b]?) : IsMsg w' v o k r := by
  cases o with
  | none => exact h
  | some L =>
    obtain ⟨b, rfl, hb⟩ := h
    exact ⟨b, rfl, (hh b _ hb).trans hb⟩
theorem IsMsg.below {w w' : World} {v : Value} {o : Option Nat} {k r : Nat} (h : IsMsg w v o k r) (hb : Below w.heap.size w w') : IsMsg w' v o k r := IsMsg.of h fun b cs hc => hb.block b (block_lt hc)

theorem i64_in (x : Int) (h0 : -9223372036854775808 ≤ x) (h1 : x ≤ 9223372036854775807) : IntKind.i64.wrap x = x := by
  simp [IntKind.wrap, IntKind.signed, IntKind.bits]
  omega

theorem own_of {w w' : World} {base : Nat} {e : TypeId} {v : Value} {n : Nat} {xs : List Value} (h : w.ownsRow base e 1 v n xs) (hh : ∀ g, v.ownBlock = some g → w'.heap[g]? = w.heap[g]?) : w'.ownsRow base e 1 v n xs := by
  obtain ⟨h1, h2⟩ := h
  refine ⟨h1, ?_⟩
  rcases h2 with h2 | ⟨g, cap, cur, rfl, hb, hg, r⟩
  · exact .inl h2
  · exact .inr ⟨g, cap, cur, rfl, hb, (hh g rfl).trans hg, r⟩
theorem own_type {w : World} {base : Nat} {e : TypeId} {v : Value} {n : Nat} {xs : List Value} (h : w.ownsRow base e 1 v n xs) {g : Nat} (hg : v.ownBlock = some g) : ∃ cs, w.heap[g]? = some (.cells cs e (0, 0)) := by
  rcases h.2 with ⟨rfl, _⟩ | ⟨g', cap, cur, rfl, _, hh, _⟩
  · cases hg
  · cases hg
    exact ⟨cur, hh⟩

theorem own_keep {w w' : World} {base : Nat} {e : TypeId} {v : Value} {n : Nat} {xs : List Value} (h : w.ownsRow base e 1 v n xs) (hb : Below w.heap.size w w') : w'.ownsRow base e 1 v n xs :=
  own_of h fun g hg => hb.block g (by obtain ⟨cs, hcs⟩ := own_type h hg; exact block_lt hcs)
theorem msg_one {w : World} {v : Value} {o : Option Nat} {k r : Nat} (h : IsMsg w v o k r) : ∀ u ∈ [v], u.oneCell' = true := by
  intro u hu
  rw [List.mem_singleton] at hu
  subst hu
  cases o with
  | none => obtain rfl : u = .slice none 0 0 := h; rfl
  | some L => obtain ⟨b, rfl, _⟩ := h; rfl

theorem msg_form {w : World} {v : Value} {o : Option Nat} {k r : Nat} (h : IsMsg w v o k r) : ∃ a l c, v = .slice a l c := by
  cases o with
  | none => exact ⟨none, 0, 0, h⟩
  | some L => obtain ⟨b, rfl, _⟩ := h; exact ⟨_, _, _, rfl⟩

/-- One more message appended. -/
theorem step_next {W1 wq w2 w3 : World} {base r g c k : Nat} {ov v : Value} {xs : List Value} {own0 : Option Nat} {O : Nat → Option Nat} {o : Obj} (hq : wq.ownsRow base 47 1 ov r xs) (hms : ∀ t, t < r → ∃ u, xs[t]? = some u ∧ IsMsg wq u (O t) k t)
    (hfr : Fr (fun b => own0 = some b) W1 wq) (hob : ∀ g, ov.ownBlock = some g → own0 = some g ∨ W1.heap.size ≤ g) (hb2 : Below wq.heap.size wq w2) (hm2 : IsMsg w2 v (O r) k r)
    (hgr : (w2.alloc o).grownBy w3 ov.ownBlock) (hat : ov.ownBlock = some g ∨ g = (w2.alloc o).heap.size) :
    (∀ t, t < r + 1 → ∃ u, (xs ++ [v])[t]? = some u ∧ IsMsg w3 u (O t) k t) ∧ Fr (fun b => own0 = some b) W1 w3 ∧ (∀ g', (Value.slice (some ⟨g, 0, none⟩) (r + 1) c).ownBlock = some g' → own0 = some g' ∨ W1.heap.size ≤ g') := by
  have hA : Below wq.heap.size wq (w2.alloc o) := hb2.alloc hb2.size _
  have hAo := own_keep hq hA
  have hk : ∀ {u : Value} {oo : Option Nat} {t : Nat}, IsMsg (w2.alloc o) u oo k t → IsMsg w3 u oo k t := fun h => h.of fun b cs hb => hgr.block b (block_lt hb) fun e => by
    obtain ⟨cs', h'⟩ := own_type hAo e.symm
    rw [h'] at hb
    cases hb
  have hl : xs.length = r := by have := hq.1; omega
  refine ⟨fun t ht => ?_, ⟨?_, ?_, ?_, ?_, fun b hb hp => ?_⟩, fun g' hg' => ?_⟩
  · by_cases h : t < r
    · obtain ⟨u, hu, hm⟩ := hms t h
      exact ⟨u, by rw [List.getElem?_append_left (by omega)]; exact hu, hk (hm.below hA)⟩
    · obtain rfl : t = r := by omega
      exact ⟨v, by rw [List.getElem?_append_right (by omega)]; simp [hl], hk (hm2.below ((Below.refl _ w2).alloc (Nat.le_refl _) _))⟩
  · exact hgr.os.trans (hA.os.trans hfr.os)
  · exact hgr.tape.trans (hA.tape.trans hfr.tape)
  · exact hgr.output.trans (hA.output.trans hfr.output)
  · exact Nat.le_trans hfr.size (Nat.le_trans hA.size hgr.size)
  · have h1 := hfr.size
    have h2 := hA.size
    refine (hgr.block b (by omega) (fun e => ?_)).trans ((hA.block b (by omega)).trans (hfr.block b hb hp))
    rcases hob b e.symm with h | h
    · exact hp h
    · omega
  · obtain rfl : g = g' := by simpa [Value.ownBlock] using hg'
    have h1 := hfr.size
    have h2 := hA.size
    rcases hat with h | h
    · exact hob g h
    · exact .inr (by omega)

/-- How START stands. -/
def StartF (w : World) (sv : Value) (n id k : Nat) (sf : Bool) : Prop :=
  (sv = .slice none 0 0 ∧ sf = false) ∨ ∃ SB c z, sv = .slice (some ⟨SB, 0, none⟩) n c ∧ w.cell? ⟨SB, id, none⟩ = some (.int .i64 z) ∧ sf = (z == (k : Int))

/-- What a node got from j in round k: null in round 1. -/
def gotO (len : Nat) (P : Nat → Int) (j k id : Nat) : Option Nat := if k = 1 then none else msgO len P j (k - 1) id

set_option maxRecDepth 100000 in
set_option maxHeartbeats 4000000 in
theorem step_walk (X ST RC base : Nat) (pa : Option Addr) (len pcap : Nat) (P : Nat → Int) (n id k rcap : Nat) (sv : Value) (sf : Bool) (oa : Option Addr) (oc : Nat) (w : World)
    (hl : len ≤ 1024) (hn : n ≤ 4) (hid : id < n) (hk1 : 1 ≤ k) (hk : k ≤ 1000)
    (hX : w.heap[X]? = some (.cells #[.pointer (some ⟨ST, 0, none⟩), .int .i64 id, .int .i64 ((k : Int) - 1)] 34 (0, 0)))
    (hST : w.heap[ST]? = some (.cells #[.slice pa len pcap, .int .i64 n, sv, .bool false] 28 (0, 0)))
    (hA : ArgB w pa len P) (hAb : 0 < len → ∀ b, pa = some b → b.block < base) (hbX : base ≤ X) (hbw : base ≤ w.heap.size) (hS : StartF w sv n id k sf)
    (hR : ∀ j, j < n → ∃ v, w.cell? ⟨RC, j, none⟩ = some v ∧ IsMsg w v (gotO len P j k id) (k - 1) id)
    (hRX : RC ≠ X) (hSX : ∀ SB c, sv = .slice (some ⟨SB, 0, none⟩) n c → SB ≠ X)
    (hO : w.ownsRow base 47 1 (.slice oa 0 oc) 0 []) (hOb : ∀ b, (Value.slice oa 0 oc).ownBlock = some b → b ≠ X ∧ b ≠ ST) :
    Calls Ybaf.prog 26 #[.pointer (some ⟨X, 0, none⟩), .slice oa 0 oc, .slice (some ⟨RC, 0, none⟩) n rcap, .bool sf] w fun e w' =>
      ∃ v, e = .returned v ∧ Fr (fun b => b = X ∨ (Value.slice oa 0 oc).ownBlock = some b) w w' ∧
        w'.heap[X]? = some (.cells #[.pointer (some ⟨ST, 0, none⟩), .int .i64 id, .int .i64 k] 34 (0, 0)) ∧
        ((sendsB len P id k = false ∧ v = .slice oa 0 oc ∧ w'.ownsRow base 47 1 (.slice oa 0 oc) 0 []) ∨
         (sendsB len P id k = true ∧ ∃ g c xs, v = .slice (some ⟨g, 0, none⟩) n c ∧ w'.ownsRow base 47 1 v n xs ∧ (∀ t, t < n → ∃ u, xs[t]? = some u ∧ IsMsg w' u (msgO len P id k t) k t) ∧ ((Value.slice oa 0 oc).ownBlock = some g ∨ w.heap.size ≤ g))) := by
  obtain ⟨i0, hi, hz0, hz1, hz2⟩ := info_parts info47
  have cX : ∀ {W : World} {z : Int}, W.heap[X]? = some (.cells #[.pointer (some ⟨ST, 0, none⟩), .int .i64 id, .int .i64 z] 34 (0, 0)) → W.cell? ⟨X, 0, none⟩ = some (.pointer (some ⟨ST, 0, none⟩)) ∧ W.cell? ⟨X, 1, none⟩ = some (.int .i64 id) ∧ W.cell? ⟨X, 2, none⟩ = some (.int .i64 z) ∧ W.frozen? ⟨X, 2, none⟩ = false := fun h => ⟨by simp [World.cell?, h], by simp [World.cell?, h], by simp [World.cell?, h], by simp [World.frozen?, h]⟩
  have cS : ∀ {W : World}, W.heap[ST]? = some (.cells #[.slice pa len pcap, .int .i64 n, sv, .bool false] 28 (0, 0)) → W.cell? ⟨ST, 0, none⟩ = some (.slice pa len pcap) ∧ W.cell? ⟨ST, 1, none⟩ = some (.int .i64 n) ∧ W.cell? ⟨ST, 2, none⟩ = some sv := fun h => ⟨by simp [World.cell?, h], by simp [World.cell?, h], by simp [World.cell?, h]⟩
  have hXS : ST ≠ X := fun e => by rw [e, hX] at hST; cases hST
  -- the world behind x.steps++
  obtain ⟨W1, hW1⟩ : ∃ W1, W1 = w.setCell ⟨X, 2, none⟩ (.int .i64 k) := ⟨_, rfl⟩
  have hX1 : W1.heap[X]? = some (.cells #[.pointer (some ⟨ST, 0, none⟩), .int .i64 id, .int .i64 k] 34 (0, 0)) := by rw [hW1, heap_setCell_same w X 2 _ 34 _ hX]; rfl
  have hf1 : Fr (fun b => b = X) w W1 := by rw [hW1]; exact Fr.set rfl
  have hST1 : W1.heap[ST]? = some (.cells #[.slice pa len pcap, .int .i64 n, sv, .bool false] 28 (0, 0)) := (hf1.block ST (block_lt hST) hXS).trans hST
  obtain ⟨x0, x1, x2, x3⟩ := cX hX
  obtain ⟨s0, s1, s2⟩ := cS hST
  obtain ⟨y0, y1, y2, -⟩ := cX hX1
  obtain ⟨t0, t1, t2⟩ := cS hST1
  have hk' : (k : Int) - 1 + 1 = k := by omega
  have HX1 := hide hX1
  have HST1 := hide hST1
  have Hf1 := hide hf1
  have HO := hide hO
  have HXw := hide hX
  have HOb := hide hOb
  have HA := hide hA
  have HR := hide hR
  have HS := hide hS
  have HSX := hide hSX
  have HAb := hide hAb
  clear hX1 hST1 hf1 hO hOb hA hR hS hSX hX hST hAb
  go_enter Ybaf.func26, Ybaf.ntmps26
  go_wp2_with fail
  rw [← hW1]
  have HS1 : Hid (StartF W1 sv n id k sf) := by
    rcases unhide HS with h | ⟨SB, c, z, rfl, hz, h⟩
    · exact hide (.inl h)
    · exact hide (.inr ⟨SB, c, z, rfl, (World.cell?_of_block (a := ⟨SB, id, none⟩) ((unhide Hf1).block SB (World.block_lt_of_cell? w _ hz) ((unhide HSX) SB c rfl))).trans hz, h⟩)
  have HA1 : Hid (ArgB W1 pa len P) := hide fun h0 => (unhide HA).below ((unhide HAb) h0) ((unhide Hf1).below hbw (fun b hb e => by omega)) h0
  have HR1 : Hid (∀ j, j < n → ∃ v, W1.cell? ⟨RC, j, none⟩ = some v ∧ IsMsg W1 v (gotO len P j k id) (k - 1) id) := hide fun j hj => by
    obtain ⟨v, h1, h2⟩ := (unhide HR) j hj
    refine ⟨v, (World.cell?_of_block (a := ⟨RC, j, none⟩) ((unhide Hf1).block RC (World.block_lt_of_cell? w _ h1) hRX)).trans h1, h2.of fun b cs hb => (unhide Hf1).block b (block_lt hb) fun e => ?_⟩
    subst e
    have := unhide HXw
    rw [this] at hb
    cases hb
  clear x0 x1 x2 x3 s0 s1 s2 hW1 HS HA HR
  rcases unhide HS1 with ⟨rfl, rfl⟩ | ⟨SB, c, z, rfl, hz, rfl⟩
  · skip
    go_quiet (fail)
    go_wp2_with fail
    clear y0 y1 y2 t0 t1 t2
    go_loopw [12] (fun iv wr => ∃ j : Nat, j ≤ n ∧ iv = .int .i64 j ∧ Below W1.heap.size W1 wr) (fun iv _ => n - (intOf iv).toNat)
    case atStart => exact ⟨0, by omega, rfl, ⟨rfl, rfl, rfl, Nat.le_refl _, fun _ _ => rfl⟩⟩
    case round =>
      obtain ⟨j, hj, rfl, hbe⟩ := hrel
      have hXr := (hbe.block X (block_lt (unhide HX1))).trans (unhide HX1)
      have hSr := (hbe.block ST (block_lt (unhide HST1))).trans (unhide HST1)
      obtain ⟨y0, y1, -, -⟩ := cX hXr
      obtain ⟨t0, t1, -⟩ := cS hSr
      have Hbe := hide hbe
      have HXr := hide hXr
      have HSr := hide hSr
      have HAr := hide ((unhide HA1).keep hbe)
      by_cases hlt : j < n
      · obtain ⟨v, hv, hm⟩ := (unhide HR1) j hlt
        have hv' : wr.cell? ⟨RC, j, none⟩ = some v := (hbe.cell (p := ⟨RC, j, none⟩) (World.block_lt_of_cell? W1 _ hv)).trans hv
        have hm' := hide (hm.below hbe)
        clear hv hm hbe hXr hSr
        by_cases hk2 : k = 1
        · have hm2 : IsMsg wr v none (k - 1) id := by
            have := unhide hm'
            rwa [show gotO len P j k id = none by rw [gotO, if_pos hk2]] at this
          obtain rfl : v = .slice none 0 0 := hm2
          have hkk : ¬ (1 : Int) < (k : Int) := by omega
          have He := fun W => hide (eq_walk (.slice none 0 0) (.slice none 0 0) none 0 0 W (fun L h => by cases h) rfl rfl)
          clear hk2 hm'
          go_wp2_with (go_at_call 28; refine (unhide (He _)).mono ?_; rintro e w2 ⟨rfl, m, rfl⟩)
          go_roundw
          case rel => exact ⟨j + 1, by omega, by go_num, ⟨(unhide Hbe).os, (unhide Hbe).tape, (unhide Hbe).output, (unhide Hbe).size, (unhide Hbe).block⟩⟩
          case measure => simp [intOf]; omega
        · have hkk : (1 : Int) < (k : Int) := by omega
          have HmI : ∀ W : World, ArgB W pa len P → Calls Ybaf.prog 10 #[.slice pa len pcap, .int .i64 j, .int .i64 (IntKind.i64.wrap ((k : Int) - 1)), .int .i64 id] W fun e w' => ∃ v, e = .returned v ∧ IsMsg w' v (msgO len P j (k - 1) id) (k - 1) id ∧ Below W.heap.size W w' ∧ ∀ b L, v = .slice (some b) L L → W.heap.size ≤ b.block := fun W h => by
            have := msg_walk pa len pcap P j (k - 1) id W hl (by omega) (by omega) (by omega) h
            rwa [show ((k - 1 : Nat) : Int) = IntKind.i64.wrap ((k : Int) - 1) by rw [i64_in _ (by omega) (by omega)]; omega] at this
          have HmH : Hid (Calls Ybaf.prog 10 #[.slice pa len pcap, .int .i64 j, .int .i64 (IntKind.i64.wrap ((k : Int) - 1)), .int .i64 id] wr.drew fun e w' => ∃ v, e = .returned v ∧ IsMsg w' v (msgO len P j (k - 1) id) (k - 1) id ∧ Below wr.heap.size wr w') := hide ((HmI wr.drew (unhide HAr)).mono fun e w' ⟨v, h1, h2, h3, _⟩ => ⟨v, h1, h2, ⟨h3.os, h3.tape, h3.output, h3.size, h3.block⟩⟩)
          clear HmI
          have hgo : gotO len P j k id = msgO len P j (k - 1) id := by rw [gotO, if_neg hk2]
          rw [hgo] at hm'
          clear hgo
          go_wp2_with fail
          go_region_with (go_at_call 10; refine (unhide HmH).mono ?_; rintro e w2 ⟨v2, rfl, hm2, hb2⟩; have hv2 : w2.cell? ⟨RC, j, none⟩ = some v := (hb2.cell (p := ⟨RC, j, none⟩) (World.block_lt_of_cell? wr _ hv')).trans hv'; have He := hide (eq_walk v v2 (msgO len P j (k - 1) id) (k - 1) id w2 (fun L h => msgO_le h) ((unhide hm').below hb2) hm2); have Hb2 : Hid (Below W1.heap.size W1 w2) := hide ((unhide Hbe).trans (hb2.mono (unhide Hbe).size)); clear hm2 hb2)
          all_goals
            go_wp2_with (go_at_call 28; refine (unhide He).mono ?_; rintro e w3 ⟨rfl, m, rfl⟩)
            go_roundw
            case rel => exact ⟨j + 1, by omega, by go_num, ⟨(unhide Hb2).os, (unhide Hb2).tape, (unhide Hb2).output, (unhide Hb2).size, (unhide Hb2).block⟩⟩
            case measure => simp [intOf]; omega
      · obtain rfl : j = n := by omega
        have Hsd : ∀ (B : Bool), sendsB len P id k = B → ∀ m, Hid (Calls Ybaf.prog 9 #[.slice pa len pcap, .int .i64 id, .int .i64 k] (wr.drewN m) fun e w' => e = .returned (.bool B) ∧ ∃ m', w' = (wr.drewN m).drewN m') := fun B hB m => hide ((sends_walk pa len pcap P id k (wr.drewN m) hl (by omega) hk (unhide HAr)).mono fun e w' ⟨h1, h2⟩ => ⟨by rw [h1, hB], 0, h2⟩)
        have Hown : Hid (W1.ownsRow base 47 1 (.slice oa 0 oc) 0 []) := hide (own_of (unhide HO) fun g hg => (unhide Hf1).block g (by obtain ⟨cs, hcs⟩ := own_type (unhide HO) hg; exact block_lt hcs) ((unhide HOb) g hg).1)
        cases hsd : sendsB len P id k with
        | false =>
          have Hs1 := Hsd false hsd
          clear Hsd
          go_wp2_with fail
          go_quiet (first | (go_at_call 9; exact Calls.quiet_of (unhide (Hs1 _))))
          go_wp2_with fail
          go_ret
          refine ⟨_, rfl, ?_, unhide HXr, .inl ⟨hsd, rfl, ?_⟩⟩
          · exact ((unhide Hf1).mono fun b _ h => .inl h).trans ⟨(unhide Hbe).os, (unhide Hbe).tape, (unhide Hbe).output, (unhide Hbe).size, fun b hb _ => (unhide Hbe).block b hb⟩
          · exact own_of (unhide Hown) fun g hg => (unhide Hbe).block g (by obtain ⟨cs, hcs⟩ := own_type (unhide Hown) hg; exact block_lt hcs)
        | true =>
          have Hs1 := Hsd true hsd
          clear Hsd
          go_wp2_with fail
          go_quiet (first | (go_at_call 9; exact Calls.quiet_of (unhide (Hs1 _))))
          go_wp2_with fail
          clear Hs1 y0 y1 t0 t1
          have Hinv0 : Hid (Fr (fun b => (Value.slice oa 0 oc).ownBlock = some b) W1 (wr.drewN nq)) := hide (Fr.mono (p := fun _ => False) ⟨(unhide Hbe).os, (unhide Hbe).tape, (unhide Hbe).output, (unhide Hbe).size, fun b hb _ => (unhide Hbe).block b hb⟩ fun _ _ h => h.elim)
          go_loopw [1, 14] (fun ov iv wq => ∃ r : Nat, r ≤ j ∧ iv = .int .i64 r ∧ ∃ xs, wq.ownsRow base 47 1 ov r xs ∧ (∀ t, t < r → ∃ u, xs[t]? = some u ∧ IsMsg wq u (msgO len P id k t) k t) ∧ Fr (fun b => (Value.slice oa 0 oc).ownBlock = some b) W1 wq ∧ (∀ g, ov.ownBlock = some g → (Value.slice oa 0 oc).ownBlock = some g ∨ W1.heap.size ≤ g)) (fun _ iv _ => j - (intOf iv).toNat)
          case atStart => exact ⟨0, by omega, rfl, [], own_of (unhide Hown) fun g hg => (unhide Hbe).block g (by obtain ⟨cs, hcs⟩ := own_type (unhide Hown) hg; exact block_lt hcs), fun t ht => absurd ht (by omega), unhide Hinv0, fun g hg => .inl hg⟩
          case round =>
            obtain ⟨r, hr, rfl, xs, hown, hms, hfr, hob⟩ := hrel
            have hXq := (hfr.block X (block_lt (unhide HX1)) (fun h => ((unhide HOb) X h).1 rfl)).trans (unhide HX1)
            have hSq := (hfr.block ST (block_lt (unhide HST1)) (fun h => ((unhide HOb) ST h).2 rfl)).trans (unhide HST1)
            obtain ⟨y0, y1, -, -⟩ := cX hXq
            obtain ⟨t0, t1, -⟩ := cS hSq
            have hb1 : base ≤ W1.heap.size := Nat.le_trans hbw (unhide Hf1).size
            have hAq : ArgB wr pa len P := fun h0 => (unhide HA1).below ((unhide HAb) h0) (hfr.below hb1 (fun b hb h => by have := ((unhide Hown).lt b h).1; omega)) h0
            have HXq := hide hXq
            have Hms := hide hms
            have Hfr := hide hfr
            have Hob := hide hob
            have Hq := hide hown
            by_cases hlt2 : r < j
            · have HmH : Hid (Calls Ybaf.prog 10 #[.slice pa len pcap, .int .i64 id, .int .i64 k, .int .i64 r] wr.drew fun e w' => ∃ v, e = .returned v ∧ IsMsg w' v (msgO len P id k r) k r ∧ Below wr.heap.size wr w') := hide ((msg_walk pa len pcap P id k r wr.drew hl (by omega) hk (by omega) hAq).mono fun e w' ⟨v, h1, h2, h3, _⟩ => ⟨v, h1, h2, ⟨h3.os, h3.tape, h3.output, h3.size, h3.block⟩⟩)
              have hbq : base ≤ wr.heap.size := Nat.le_trans hb1 hfr.size
              clear hAq hXq hSq hms hfr hob hown
              go_wp2_with fail
              go_region_law (first | (refine step_append_lies _ (by rfl) (.tmp 128) (.tmp 140) 46 (by rfl) base 47 i0 _ 1 24 Ybaf.underlying46 hi hz0 hz1 hz2 rfl (by decide) u1 r xs (by rfl) (Hq2.alloc _) ⟨w2.heap.size, 0, none⟩ 1 1 [.slice va vl vc] (by rfl) (by rfl) (cell_one_new _ _ _) hone (by omega) (by unfold maxLen; omega) (by omega) (by simp only [World.size_alloc]; omega) _ rfl ?_; intro g c w3 hown3 hgr3 hat3 hlt3) | (go_simp; go_at_call 10; refine (unhide HmH).mono ?_; rintro e w2 ⟨v2, rfl, hm2, hb2⟩; obtain ⟨va, vl, vc, rfl⟩ := msg_form hm2; have Hm2 := hide hm2; have Hb2 := hide hb2; have hbz : base ≤ w2.heap.size := Nat.le_trans hbq hb2.size; have Hq2 := own_keep (unhide Hq) hb2; have hone := msg_one hm2; clear hm2 hb2))
              all_goals
                obtain ⟨n1, n2, n3⟩ := step_next (c := c) (unhide Hq) (unhide Hms) (unhide Hfr) (unhide Hob) (unhide Hb2) (unhide Hm2) hgr3 hat3
                have N1 := hide n1
                have N2 := hide n2
                have N3 := hide n3
                have N4 := hide hown3
                clear n1 n2 n3 hgr3 hat3 hown3
                go_wp2_with fail
                go_roundw
                case rel => exact ⟨r + 1, by omega, by go_num, _, unhide N4, unhide N1, unhide N2, unhide N3⟩
                case measure => simp [intOf]; omega
            · obtain rfl : r = j := by omega
              go_wp2_with fail
              go_ret
              obtain ⟨g, c, rfl, -, -⟩ := (unhide Hq).form (by omega)
              refine ⟨_, rfl, ?_, unhide HXq, .inr ⟨hsd, g, c, xs, rfl, unhide Hq, unhide Hms, ?_⟩⟩
              · exact ((unhide Hf1).mono fun b _ h => .inl h).trans ((unhide Hfr).mono fun b _ h => .inr h)
              · rcases (unhide Hob) g rfl with h | h
                · exact .inl h
                · exact .inr (Nat.le_trans (unhide Hf1).size h)
  · have hidn : (id : Int) < (n : Int) := by omega
    cases hzk : (z == (k : Int))
    · skip
      go_quiet (fail)
      go_wp2_with fail
      clear y0 y1 y2 t0 t1 t2
      go_loopw [12] (fun iv wr => ∃ j : Nat, j ≤ n ∧ iv = .int .i64 j ∧ Below W1.heap.size W1 wr) (fun iv _ => n - (intOf iv).toNat)
      case atStart => exact ⟨0, by omega, rfl, ⟨rfl, rfl, rfl, Nat.le_refl _, fun _ _ => rfl⟩⟩
      case round =>
        obtain ⟨j, hj, rfl, hbe⟩ := hrel
        have hXr := (hbe.block X (block_lt (unhide HX1))).trans (unhide HX1)
        have hSr := (hbe.block ST (block_lt (unhide HST1))).trans (unhide HST1)
        obtain ⟨y0, y1, -, -⟩ := cX hXr
        obtain ⟨t0, t1, -⟩ := cS hSr
        have Hbe := hide hbe
        have HXr := hide hXr
        have HSr := hide hSr
        have HAr := hide ((unhide HA1).keep hbe)
        by_cases hlt : j < n
        · obtain ⟨v, hv, hm⟩ := (unhide HR1) j hlt
          have hv' : wr.cell? ⟨RC, j, none⟩ = some v := (hbe.cell (p := ⟨RC, j, none⟩) (World.block_lt_of_cell? W1 _ hv)).trans hv
          have hm' := hide (hm.below hbe)
          clear hv hm hbe hXr hSr
          by_cases hk2 : k = 1
          · have hm2 : IsMsg wr v none (k - 1) id := by
              have := unhide hm'
              rwa [show gotO len P j k id = none by rw [gotO, if_pos hk2]] at this
            obtain rfl : v = .slice none 0 0 := hm2
            have hkk : ¬ (1 : Int) < (k : Int) := by omega
            have He := fun W => hide (eq_walk (.slice none 0 0) (.slice none 0 0) none 0 0 W (fun L h => by cases h) rfl rfl)
            clear hk2 hm'
            go_wp2_with (go_at_call 28; refine (unhide (He _)).mono ?_; rintro e w2 ⟨rfl, m, rfl⟩)
            go_roundw
            case rel => exact ⟨j + 1, by omega, by go_num, ⟨(unhide Hbe).os, (unhide Hbe).tape, (unhide Hbe).output, (unhide Hbe).size, (unhide Hbe).block⟩⟩
            case measure => simp [intOf]; omega
          · have hkk : (1 : Int) < (k : Int) := by omega
            have HmI : ∀ W : World, ArgB W pa len P → Calls Ybaf.prog 10 #[.slice pa len pcap, .int .i64 j, .int .i64 (IntKind.i64.wrap ((k : Int) - 1)), .int .i64 id] W fun e w' => ∃ v, e = .returned v ∧ IsMsg w' v (msgO len P j (k - 1) id) (k - 1) id ∧ Below W.heap.size W w' ∧ ∀ b L, v = .slice (some b) L L → W.heap.size ≤ b.block := fun W h => by
              have := msg_walk pa len pcap P j (k - 1) id W hl (by omega) (by omega) (by omega) h
              rwa [show ((k - 1 : Nat) : Int) = IntKind.i64.wrap ((k : Int) - 1) by rw [i64_in _ (by omega) (by omega)]; omega] at this
            have HmH : Hid (Calls Ybaf.prog 10 #[.slice pa len pcap, .int .i64 j, .int .i64 (IntKind.i64.wrap ((k : Int) - 1)), .int .i64 id] wr.drew fun e w' => ∃ v, e = .returned v ∧ IsMsg w' v (msgO len P j (k - 1) id) (k - 1) id ∧ Below wr.heap.size wr w') := hide ((HmI wr.drew (unhide HAr)).mono fun e w' ⟨v, h1, h2, h3, _⟩ => ⟨v, h1, h2, ⟨h3.os, h3.tape, h3.output, h3.size, h3.block⟩⟩)
            clear HmI
            have hgo : gotO len P j k id = msgO len P j (k - 1) id := by rw [gotO, if_neg hk2]
            rw [hgo] at hm'
            clear hgo
            go_wp2_with fail
            go_region_with (go_at_call 10; refine (unhide HmH).mono ?_; rintro e w2 ⟨v2, rfl, hm2, hb2⟩; have hv2 : w2.cell? ⟨RC, j, none⟩ = some v := (hb2.cell (p := ⟨RC, j, none⟩) (World.block_lt_of_cell? wr _ hv')).trans hv'; have He := hide (eq_walk v v2 (msgO len P j (k - 1) id) (k - 1) id w2 (fun L h => msgO_le h) ((unhide hm').below hb2) hm2); have Hb2 : Hid (Below W1.heap.size W1 w2) := hide ((unhide Hbe).trans (hb2.mono (unhide Hbe).size)); clear hm2 hb2)
            all_goals
              go_wp2_with (go_at_call 28; refine (unhide He).mono ?_; rintro e w3 ⟨rfl, m, rfl⟩)
              go_roundw
              case rel => exact ⟨j + 1, by omega, by go_num, ⟨(unhide Hb2).os, (unhide Hb2).tape, (unhide Hb2).output, (unhide Hb2).size, (unhide Hb2).block⟩⟩
              case measure => simp [intOf]; omega
        · obtain rfl : j = n := by omega
          have Hsd : ∀ (B : Bool), sendsB len P id k = B → ∀ m, Hid (Calls Ybaf.prog 9 #[.slice pa len pcap, .int .i64 id, .int .i64 k] (wr.drewN m) fun e w' => e = .returned (.bool B) ∧ ∃ m', w' = (wr.drewN m).drewN m') := fun B hB m => hide ((sends_walk pa len pcap P id k (wr.drewN m) hl (by omega) hk (unhide HAr)).mono fun e w' ⟨h1, h2⟩ => ⟨by rw [h1, hB], 0, h2⟩)
          have Hown : Hid (W1.ownsRow base 47 1 (.slice oa 0 oc) 0 []) := hide (own_of (unhide HO) fun g hg => (unhide Hf1).block g (by obtain ⟨cs, hcs⟩ := own_type (unhide HO) hg; exact block_lt hcs) ((unhide HOb) g hg).1)
          cases hsd : sendsB len P id k with
          | false =>
            have Hs1 := Hsd false hsd
            clear Hsd
            go_wp2_with fail
            go_quiet (first | (go_at_call 9; exact Calls.quiet_of (unhide (Hs1 _))))
            go_wp2_with fail
            go_ret
            refine ⟨_, rfl, ?_, unhide HXr, .inl ⟨hsd, rfl, ?_⟩⟩
            · exact ((unhide Hf1).mono fun b _ h => .inl h).trans ⟨(unhide Hbe).os, (unhide Hbe).tape, (unhide Hbe).output, (unhide Hbe).size, fun b hb _ => (unhide Hbe).block b hb⟩
            · exact own_of (unhide Hown) fun g hg => (unhide Hbe).block g (by obtain ⟨cs, hcs⟩ := own_type (unhide Hown) hg; exact block_lt hcs)
          | true =>
            have Hs1 := Hsd true hsd
            clear Hsd
            go_wp2_with fail
            go_quiet (first | (go_at_call 9; exact Calls.quiet_of (unhide (Hs1 _))))
            go_wp2_with fail
            clear Hs1 y0 y1 t0 t1
            have Hinv0 : Hid (Fr (fun b => (Value.slice oa 0 oc).ownBlock = some b) W1 (wr.drewN nq)) := hide (Fr.mono (p := fun _ => False) ⟨(unhide Hbe).os, (unhide Hbe).tape, (unhide Hbe).output, (unhide Hbe).size, fun b hb _ => (unhide Hbe).block b hb⟩ fun _ _ h => h.elim)
            go_loopw [1, 14] (fun ov iv wq => ∃ r : Nat, r ≤ j ∧ iv = .int .i64 r ∧ ∃ xs, wq.ownsRow base 47 1 ov r xs ∧ (∀ t, t < r → ∃ u, xs[t]? = some u ∧ IsMsg wq u (msgO len P id k t) k t) ∧ Fr (fun b => (Value.slice oa 0 oc).ownBlock = some b) W1 wq ∧ (∀ g, ov.ownBlock = some g → (Value.slice oa 0 oc).ownBlock = some g ∨ W1.heap.size ≤ g)) (fun _ iv _ => j - (intOf iv).toNat)
            case atStart => exact ⟨0, by omega, rfl, [], own_of (unhide Hown) fun g hg => (unhide Hbe).block g (by obtain ⟨cs, hcs⟩ := own_type (unhide Hown) hg; exact block_lt hcs), fun t ht => absurd ht (by omega), unhide Hinv0, fun g hg => .inl hg⟩
            case round =>
              obtain ⟨r, hr, rfl, xs, hown, hms, hfr, hob⟩ := hrel
              have hXq := (hfr.block X (block_lt (unhide HX1)) (fun h => ((unhide HOb) X h).1 rfl)).trans (unhide HX1)
              have hSq := (hfr.block ST (block_lt (unhide HST1)) (fun h => ((unhide HOb) ST h).2 rfl)).trans (unhide HST1)
              obtain ⟨y0, y1, -, -⟩ := cX hXq
              obtain ⟨t0, t1, -⟩ := cS hSq
              have hb1 : base ≤ W1.heap.size := Nat.le_trans hbw (unhide Hf1).size
              have hAq : ArgB wr pa len P := fun h0 => (unhide HA1).below ((unhide HAb) h0) (hfr.below hb1 (fun b hb h => by have := ((unhide Hown).lt b h).1; omega)) h0
              have HXq := hide hXq
              have Hms := hide hms
              have Hfr := hide hfr
              have Hob := hide hob
              have Hq := hide hown
              by_cases hlt2 : r < j
              · have HmH : Hid (Calls Ybaf.prog 10 #[.slice pa len pcap, .int .i64 id, .int .i64 k, .int .i64 r] wr.drew fun e w' => ∃ v, e = .returned v ∧ IsMsg w' v (msgO len P id k r) k r ∧ Below wr.heap.size wr w') := hide ((msg_walk pa len pcap P id k r wr.drew hl (by omega) hk (by omega) hAq).mono fun e w' ⟨v, h1, h2, h3, _⟩ => ⟨v, h1, h2, ⟨h3.os, h3.tape, h3.output, h3.size, h3.block⟩⟩)
                have hbq : base ≤ wr.heap.size := Nat.le_trans hb1 hfr.size
                clear hAq hXq hSq hms hfr hob hown
                go_wp2_with fail
                go_region_law (first | (refine step_append_lies _ (by rfl) (.tmp 128) (.tmp 140) 46 (by rfl) base 47 i0 _ 1 24 Ybaf.underlying46 hi hz0 hz1 hz2 rfl (by decide) u1 r xs (by rfl) (Hq2.alloc _) ⟨w2.heap.size, 0, none⟩ 1 1 [.slice va vl vc] (by rfl) (by rfl) (cell_one_new _ _ _) hone (by omega) (by unfold maxLen; omega) (by omega) (by simp only [World.size_alloc]; omega) _ rfl ?_; intro g c w3 hown3 hgr3 hat3 hlt3) | (go_simp; go_at_call 10; refine (unhide HmH).mono ?_; rintro e w2 ⟨v2, rfl, hm2, hb2⟩; obtain ⟨va, vl, vc, rfl⟩ := msg_form hm2; have Hm2 := hide hm2; have Hb2 := hide hb2; have hbz : base ≤ w2.heap.size := Nat.le_trans hbq hb2.size; have Hq2 := own_keep (unhide Hq) hb2; have hone := msg_one hm2; clear hm2 hb2))
                all_goals
                  obtain ⟨n1, n2, n3⟩ := step_next (c := c) (unhide Hq) (unhide Hms) (unhide Hfr) (unhide Hob) (unhide Hb2) (unhide Hm2) hgr3 hat3
                  have N1 := hide n1
                  have N2 := hide n2
                  have N3 := hide n3
                  have N4 := hide hown3
                  clear n1 n2 n3 hgr3 hat3 hown3
                  go_wp2_with fail
                  go_roundw
                  case rel => exact ⟨r + 1, by omega, by go_num, _, unhide N4, unhide N1, unhide N2, unhide N3⟩
                  case measure => simp [intOf]; omega
              · obtain rfl : r = j := by omega
                go_wp2_with fail
                go_ret
                obtain ⟨g, c, rfl, -, -⟩ := (unhide Hq).form (by omega)
                refine ⟨_, rfl, ?_, unhide HXq, .inr ⟨hsd, g, c, xs, rfl, unhide Hq, unhide Hms, ?_⟩⟩
                · exact ((unhide Hf1).mono fun b _ h => .inl h).trans ((unhide Hfr).mono fun b _ h => .inr h)
                · rcases (unhide Hob) g rfl with h | h
                  · exact .inl h
                  · exact .inr (Nat.le_trans (unhide Hf1).size h)
    · skip
      go_quiet (fail)
      go_wp2_with fail
      clear y0 y1 y2 t0 t1 t2
      go_loopw [12] (fun iv wr => ∃ j : Nat, j ≤ n ∧ iv = .int .i64 j ∧ Below W1.heap.size W1 wr) (fun iv _ => n - (intOf iv).toNat)
      case atStart => exact ⟨0, by omega, rfl, ⟨rfl, rfl, rfl, Nat.le_refl _, fun _ _ => rfl⟩⟩
      case round =>
        obtain ⟨j, hj, rfl, hbe⟩ := hrel
        have hXr := (hbe.block X (block_lt (unhide HX1))).trans (unhide HX1)
        have hSr := (hbe.block ST (block_lt (unhide HST1))).trans (unhide HST1)
        obtain ⟨y0, y1, -, -⟩ := cX hXr
        obtain ⟨t0, t1, -⟩ := cS hSr
        have Hbe := hide hbe
        have HXr := hide hXr
        have HSr := hide hSr
        have HAr := hide ((unhide HA1).keep hbe)
        by_cases hlt : j < n
        · obtain ⟨v, hv, hm⟩ := (unhide HR1) j hlt
          have hv' : wr.cell? ⟨RC, j, none⟩ = some v := (hbe.cell (p := ⟨RC, j, none⟩) (World.block_lt_of_cell? W1 _ hv)).trans hv
          have hm' := hide (hm.below hbe)
          clear hv hm hbe hXr hSr
          by_cases hk2 : k = 1
          · have hm2 : IsMsg wr v none (k - 1) id := by
              have := unhide hm'
              rwa [show gotO len P j k id = none by rw [gotO, if_pos hk2]] at this
            obtain rfl : v = .slice none 0 0 := hm2
            have hkk : ¬ (1 : Int) < (k : Int) := by omega
            have He := fun W => hide (eq_walk (.slice none 0 0) (.slice none 0 0) none 0 0 W (fun L h => by cases h) rfl rfl)
            clear hk2 hm'
            go_wp2_with (go_at_call 28; refine (unhide (He _)).mono ?_; rintro e w2 ⟨rfl, m, rfl⟩)
            go_roundw
            case rel => exact ⟨j + 1, by omega, by go_num, ⟨(unhide Hbe).os, (unhide Hbe).tape, (unhide Hbe).output, (unhide Hbe).size, (unhide Hbe).block⟩⟩
            case measure => simp [intOf]; omega
          · have hkk : (1 : Int) < (k : Int) := by omega
            have HmI : ∀ W : World, ArgB W pa len P → Calls Ybaf.prog 10 #[.slice pa len pcap, .int .i64 j, .int .i64 (IntKind.i64.wrap ((k : Int) - 1)), .int .i64 id] W fun e w' => ∃ v, e = .returned v ∧ IsMsg w' v (msgO len P j (k - 1) id) (k - 1) id ∧ Below W.heap.size W w' ∧ ∀ b L, v = .slice (some b) L L → W.heap.size ≤ b.block := fun W h => by
              have := msg_walk pa len pcap P j (k - 1) id W hl (by omega) (by omega) (by omega) h
              rwa [show ((k - 1 : Nat) : Int) = IntKind.i64.wrap ((k : Int) - 1) by rw [i64_in _ (by omega) (by omega)]; omega] at this
            have HmH : Hid (Calls Ybaf.prog 10 #[.slice pa len pcap, .int .i64 j, .int .i64 (IntKind.i64.wrap ((k : Int) - 1)), .int .i64 id] wr.drew fun e w' => ∃ v, e = .returned v ∧ IsMsg w' v (msgO len P j (k - 1) id) (k - 1) id ∧ Below wr.heap.size wr w') := hide ((HmI wr.drew (unhide HAr)).mono fun e w' ⟨v, h1, h2, h3, _⟩ => ⟨v, h1, h2, ⟨h3.os, h3.tape, h3.output, h3.size, h3.block⟩⟩)
            clear HmI
            have hgo : gotO len P j k id = msgO len P j (k - 1) id := by rw [gotO, if_neg hk2]
            rw [hgo] at hm'
            clear hgo
            go_wp2_with fail
            go_region_with (go_at_call 10; refine (unhide HmH).mono ?_; rintro e w2 ⟨v2, rfl, hm2, hb2⟩; have hv2 : w2.cell? ⟨RC, j, none⟩ = some v := (hb2.cell (p := ⟨RC, j, none⟩) (World.block_lt_of_cell? wr _ hv')).trans hv'; have He := hide (eq_walk v v2 (msgO len P j (k - 1) id) (k - 1) id w2 (fun L h => msgO_le h) ((unhide hm').below hb2) hm2); have Hb2 : Hid (Below W1.heap.size W1 w2) := hide ((unhide Hbe).trans (hb2.mono (unhide Hbe).size)); clear hm2 hb2)
            all_goals
              go_wp2_with (go_at_call 28; refine (unhide He).mono ?_; rintro e w3 ⟨rfl, m, rfl⟩)
              go_roundw
              case rel => exact ⟨j + 1, by omega, by go_num, ⟨(unhide Hb2).os, (unhide Hb2).tape, (unhide Hb2).output, (unhide Hb2).size, (unhide Hb2).block⟩⟩
              case measure => simp [intOf]; omega
        · obtain rfl : j = n := by omega
          have Hsd : ∀ (B : Bool), sendsB len P id k = B → ∀ m, Hid (Calls Ybaf.prog 9 #[.slice pa len pcap, .int .i64 id, .int .i64 k] (wr.drewN m) fun e w' => e = .returned (.bool B) ∧ ∃ m', w' = (wr.drewN m).drewN m') := fun B hB m => hide ((sends_walk pa len pcap P id k (wr.drewN m) hl (by omega) hk (unhide HAr)).mono fun e w' ⟨h1, h2⟩ => ⟨by rw [h1, hB], 0, h2⟩)
          have Hown : Hid (W1.ownsRow base 47 1 (.slice oa 0 oc) 0 []) := hide (own_of (unhide HO) fun g hg => (unhide Hf1).block g (by obtain ⟨cs, hcs⟩ := own_type (unhide HO) hg; exact block_lt hcs) ((unhide HOb) g hg).1)
          cases hsd : sendsB len P id k with
          | false =>
            have Hs1 := Hsd false hsd
            clear Hsd
            go_wp2_with fail
            go_quiet (first | (go_at_call 9; exact Calls.quiet_of (unhide (Hs1 _))))
            go_wp2_with fail
            go_ret
            refine ⟨_, rfl, ?_, unhide HXr, .inl ⟨hsd, rfl, ?_⟩⟩
            · exact ((unhide Hf1).mono fun b _ h => .inl h).trans ⟨(unhide Hbe).os, (unhide Hbe).tape, (unhide Hbe).output, (unhide Hbe).size, fun b hb _ => (unhide Hbe).block b hb⟩
            · exact own_of (unhide Hown) fun g hg => (unhide Hbe).block g (by obtain ⟨cs, hcs⟩ := own_type (unhide Hown) hg; exact block_lt hcs)
          | true =>
            have Hs1 := Hsd true hsd
            clear Hsd
            go_wp2_with fail
            go_quiet (first | (go_at_call 9; exact Calls.quiet_of (unhide (Hs1 _))))
            go_wp2_with fail
            clear Hs1 y0 y1 t0 t1
            have Hinv0 : Hid (Fr (fun b => (Value.slice oa 0 oc).ownBlock = some b) W1 (wr.drewN nq)) := hide (Fr.mono (p := fun _ => False) ⟨(unhide Hbe).os, (unhide Hbe).tape, (unhide Hbe).output, (unhide Hbe).size, fun b hb _ => (unhide Hbe).block b hb⟩ fun _ _ h => h.elim)
            go_loopw [1, 14] (fun ov iv wq => ∃ r : Nat, r ≤ j ∧ iv = .int .i64 r ∧ ∃ xs, wq.ownsRow base 47 1 ov r xs ∧ (∀ t, t < r → ∃ u, xs[t]? = some u ∧ IsMsg wq u (msgO len P id k t) k t) ∧ Fr (fun b => (Value.slice oa 0 oc).ownBlock = some b) W1 wq ∧ (∀ g, ov.ownBlock = some g → (Value.slice oa 0 oc).ownBlock = some g ∨ W1.heap.size ≤ g)) (fun _ iv _ => j - (intOf iv).toNat)
            case atStart => exact ⟨0, by omega, rfl, [], own_of (unhide Hown) fun g hg => (unhide Hbe).block g (by obtain ⟨cs, hcs⟩ := own_type (unhide Hown) hg; exact block_lt hcs), fun t ht => absurd ht (by omega), unhide Hinv0, fun g hg => .inl hg⟩
            case round =>
              obtain ⟨r, hr, rfl, xs, hown, hms, hfr, hob⟩ := hrel
              have hXq := (hfr.block X (block_lt (unhide HX1)) (fun h => ((unhide HOb) X h).1 rfl)).trans (unhide HX1)
              have hSq := (hfr.block ST (block_lt (unhide HST1)) (fun h => ((unhide HOb) ST h).2 rfl)).trans (unhide HST1)
              obtain ⟨y0, y1, -, -⟩ := cX hXq
              obtain ⟨t0, t1, -⟩ := cS hSq
              have hb1 : base ≤ W1.heap.size := Nat.le_trans hbw (unhide Hf1).size
              have hAq : ArgB wr pa len P := fun h0 => (unhide HA1).below ((unhide HAb) h0) (hfr.below hb1 (fun b hb h => by have := ((unhide Hown).lt b h).1; omega)) h0
              have HXq := hide hXq
              have Hms := hide hms
              have Hfr := hide hfr
              have Hob := hide hob
              have Hq := hide hown
              by_cases hlt2 : r < j
              · have HmH : Hid (Calls Ybaf.prog 10 #[.slice pa len pcap, .int .i64 id, .int .i64 k, .int .i64 r] wr.drew fun e w' => ∃ v, e = .returned v ∧ IsMsg w' v (msgO len P id k r) k r ∧ Below wr.heap.size wr w') := hide ((msg_walk pa len pcap P id k r wr.drew hl (by omega) hk (by omega) hAq).mono fun e w' ⟨v, h1, h2, h3, _⟩ => ⟨v, h1, h2, ⟨h3.os, h3.tape, h3.output, h3.size, h3.block⟩⟩)
                have hbq : base ≤ wr.heap.size := Nat.le_trans hb1 hfr.size
                clear hAq hXq hSq hms hfr hob hown
                go_wp2_with fail
                go_region_law (first | (refine step_append_lies _ (by rfl) (.tmp 128) (.tmp 140) 46 (by rfl) base 47 i0 _ 1 24 Ybaf.underlying46 hi hz0 hz1 hz2 rfl (by decide) u1 r xs (by rfl) (Hq2.alloc _) ⟨w2.heap.size, 0, none⟩ 1 1 [.slice va vl vc] (by rfl) (by rfl) (cell_one_new _ _ _) hone (by omega) (by unfold maxLen; omega) (by omega) (by simp only [World.size_alloc]; omega) _ rfl ?_; intro g c w3 hown3 hgr3 hat3 hlt3) | (go_simp; go_at_call 10; refine (unhide HmH).mono ?_; rintro e w2 ⟨v2, rfl, hm2, hb2⟩; obtain ⟨va, vl, vc, rfl⟩ := msg_form hm2; have Hm2 := hide hm2; have Hb2 := hide hb2; have hbz : base ≤ w2.heap.size := Nat.le_trans hbq hb2.size; have Hq2 := own_keep (unhide Hq) hb2; have hone := msg_one hm2; clear hm2 hb2))
                all_goals
                  obtain ⟨n1, n2, n3⟩ := step_next (c := c) (unhide Hq) (unhide Hms) (unhide Hfr) (unhide Hob) (unhide Hb2) (unhide Hm2) hgr3 hat3
                  have N1 := hide n1
                  have N2 := hide n2
                  have N3 := hide n3
                  have N4 := hide hown3
                  clear n1 n2 n3 hgr3 hat3 hown3
                  go_wp2_with fail
                  go_roundw
                  case rel => exact ⟨r + 1, by omega, by go_num, _, unhide N4, unhide N1, unhide N2, unhide N3⟩
                  case measure => simp [intOf]; omega
              · obtain rfl : r = j := by omega
                go_wp2_with fail
                go_ret
                obtain ⟨g, c, rfl, -, -⟩ := (unhide Hq).form (by omega)
                refine ⟨_, rfl, ?_, unhide HXq, .inr ⟨hsd, g, c, xs, rfl, unhide Hq, unhide Hms, ?_⟩⟩
                · exact ((unhide Hf1).mono fun b _ h => .inl h).trans ((unhide Hfr).mono fun b _ h => .inr h)
                · rcases (unhide Hob) g rfl with h | h
                  · exact .inl h
                  · exact .inr (Nat.le_trans (unhide Hf1).size h)

end Go.Proofs.YbulkbsnkFmt
