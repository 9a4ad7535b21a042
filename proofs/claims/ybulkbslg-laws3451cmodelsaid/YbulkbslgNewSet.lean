/-
  Seat b3451a: the walk of 'newSet' (function 6), over what slices.Values, Sorted and Compact do ('DistinctSaid', paid in YbulkbslgSorted).
-/
import Derived.Test.YbulkbslgIter
import Derived.Sort.OwnSorted
import Derived.Deep.CutBlock
import Derived.Deep.CutRange
import Derived.Deep.DeepCutAuto
import Derived.Deep.QuietTactic
import Derived.BigQuiet
namespace Go.Proofs.Ybulkbslg
open Go.RowKit Go.Maps Go.WideMaps Go.Sort

/-- slices.Sorted at what slices.Values handed back; slices.Compact at what that handed back. -/
def SortedSaid : Prop := ∀ (b off len cap : Nat) (S : Nat → ByteArray) (w : World), len ≤ 4096 → b < w.heap.size → (∀ j, j < len → w.cell? ⟨b, off + j, none⟩ = some (.string (S j))) →
  Calls Yba.prog 9 #[.func (.func 14) #[] #[.pointer (some ⟨w.heap.size, 0, none⟩)]] (w.alloc (.cells #[.slice (some ⟨b, off, none⟩) len cap] 23)) fun e w' => ∃ (v : Value) (ss : List (List UInt8)),
    e = .returned v ∧ w'.ownsRow (w.heap.size + 1) 9 1 v ss.length (ss.map encStr) ∧ ss.length ≤ 4096 ∧ Below (w.heap.size + 1) (w.alloc (.cells #[.slice (some ⟨b, off, none⟩) len cap] 23)) w'
def CompactSaid : Prop := ∀ (base : Nat) (v : Value) (ss : List (List UInt8)) (w : World), w.ownsRow base 9 1 v ss.length (ss.map encStr) → ss.length ≤ 4096 →
  Calls Yba.prog 8 #[v] w fun e w' => ∃ (da : Option Addr) (dl dc : Nat), e = .returned (.slice da dl dc) ∧ Below base w w'

theorem values_call (a : Option Addr) (len cap : Nat) (w : World) :
    Calls Yba.prog 10 #[.slice a len cap] w fun e w' => e = .returned (.func (.func 14) #[] #[.pointer (some ⟨w.heap.size, 0, none⟩)]) ∧ w' = w.alloc (.cells #[.slice a len cap] 23) :=
  (callsIn_wide (n := 1)).1 (values_in Fence.wide 1 trivial rfl a len cap w)

/-- A block of three cells. -/
theorem three {w : World} {B : Nat} {x y z : Value} {t : TypeId} (h : w.heap[B]? = some (.cells #[x, y, z] t (0, 0))) :
    (w.cell? ⟨B, 0, none⟩ = some x ∧ w.cell? ⟨B, 1, none⟩ = some y ∧ w.cell? ⟨B, 2, none⟩ = some z) ∧ (w.frozen? ⟨B, 0, none⟩ = false ∧ w.frozen? ⟨B, 1, none⟩ = false ∧ w.frozen? ⟨B, 2, none⟩ = false) ∧ B < w.heap.size := by
  refine ⟨⟨?_, ?_, ?_⟩, ⟨?_, ?_, ?_⟩, (Array.getElem?_eq_some_iff.1 h).1⟩ <;> simp [World.cell?, World.frozen?, h]

theorem three_set1 {w : World} {B : Nat} {x y z v : Value} {t : TypeId} (h : w.heap[B]? = some (.cells #[x, y, z] t (0, 0))) : (w.setCell ⟨B, 1, none⟩ v).heap[B]? = some (.cells #[x, v, z] t (0, 0)) := by
  obtain ⟨hlt, hk⟩ := Array.getElem?_eq_some_iff.1 h
  show (w.heap.modify B _)[B]? = _
  rw [Array.getElem?_eq_getElem (by rw [Array.size_modify]; exact hlt), Array.getElem_modify_self, hk]
  rfl
theorem three_set2 {w : World} {B : Nat} {x y z v : Value} {t : TypeId} (h : w.heap[B]? = some (.cells #[x, y, z] t (0, 0))) : (w.setCell ⟨B, 2, none⟩ v).heap[B]? = some (.cells #[x, y, v] t (0, 0)) := by
  obtain ⟨hlt, hk⟩ := Array.getElem?_eq_some_iff.1 h
  show (w.heap.modify B _)[B]? = _
  rw [Array.getElem?_eq_getElem (by rw [Array.size_modify]; exact hlt), Array.getElem_modify_self, hk]
  rfl

/-- newSet's two blocks: the result's (still zero) and s's; nothing that lay before has turned. -/
structure NsAt (w wr : World) (sv dv : Value) (m : Option Nat) : Prop where
  r : wr.heap[w.heap.size]? = some (.cells #[.slice none 0 0, .slice none 0 0, .map none] 27 (0, 0))
  s : wr.heap[w.heap.size + 1]? = some (.cells #[sv, dv, .map m] 27 (0, 0))
  below : Below w.heap.size w wr

theorem run_makeMap_hint {P : Program} (t k e : TypeId) (ht : P.underlying t = some (.map k e)) (n : Int) (w : World) : (Instr.makeMap t (some (.int .i64 n))).run P w = .ok (.map (some w.heap.size)) (w.alloc (.map #[] 0)) := by
  simp [Instr.makeMap, run_underlying ht, asInt]
  rfl

/-- The map behind k rounds. -/
def Dm (S : Nat → ByteArray) : Nat → DataW Unit
  | 0 => .map []
  | k + 1 => (Dm S k).put (.string (S k).data.toList) (.lit (.bool true))
theorem Dm_isMap (S : Nat → ByteArray) : ∀ k, IsMap (Dm S k)
  | 0 => isMap_empty
  | k + 1 => (Dm_isMap S k).put _ _
theorem Dm_at (S : Nat → ByteArray) (v : ByteArray) : ∀ k, (Dm S k).atKey (.string v.data.toList) (.lit (.bool false)) = .lit (.bool (memB S k v))
  | 0 => rfl
  | k + 1 => by
    unfold Dm memB
    by_cases h : S k = v
    · subst h
      rw [atKey_put_same (Dm_isMap S k) (show WideAt.IsKeyLit (.string (S k).data.toList) from trivial)]; simp
    · have hne : (Lit.string v.data.toList) ≠ .string (S k).data.toList := fun e => h (bytes_ext (by injection e with e; exact e.symm))
      have hne2 : ((S k).toList == v.toList) = false := by
        rw [beq_eq_false_iff_ne, ByteArray.toList_eq, ByteArray.toList_eq]
        exact fun e => h (bytes_ext e)
      rw [atKey_put_other hne, Dm_at S v k, hne2, Bool.or_false]

theorem ns_start (w : World) (sv : Value) : NsAt w ((w.alloc (.cells #[.slice none 0 0, .slice none 0 0, .map none] 27)).alloc (.cells #[sv, sv, .map none] 27)) sv sv none := by
  refine ⟨?_, ?_, ((Below.refl _ w).alloc (Nat.le_refl _) _).alloc (by simp) _⟩
  · exact (Below.heap_alloc _ _ _ (by simp)).trans (World.alloc_heap_new w _)
  · have := World.alloc_heap_new (w.alloc (.cells #[.slice none 0 0, .slice none 0 0, .map none] 27)) (.cells #[sv, sv, .map none] 27)
    rwa [World.size_alloc] at this

theorem NsAt.of_below {w wr w2 : World} {sv dv : Value} {m : Option Nat} (h : NsAt w wr sv dv m) {B : Nat} (hB : w.heap.size + 2 ≤ B) (hb : Below B wr w2) : NsAt w w2 sv dv m :=
  ⟨(hb.block _ (by omega)).trans h.r, (hb.block _ (by omega)).trans h.s, h.below.trans (hb.mono (by omega))⟩

theorem NsAt.later {w wr w1 w2 : World} {sv dv : Value} {o : Obj} {m : Option Nat} (h : NsAt w wr sv dv m) (h1 : Below (wr.heap.size + 1) (wr.alloc o) w1) (h2 : Below (wr.heap.size + 1) w1 w2) : NsAt w w2 sv dv m := by
  have hz := (three h.s).2.2
  have hb : Below wr.heap.size wr w2 := ((Below.refl _ wr).alloc (Nat.le_refl _) o).trans ((h1.trans h2).mono (by omega))
  exact h.of_below (by omega) hb

theorem NsAt.set1 {w wr : World} {sv dv v : Value} {m : Option Nat} (h : NsAt w wr sv dv m) : NsAt w (wr.setCell ⟨w.heap.size + 1, 1, none⟩ v) sv v m :=
  ⟨(Below.heap_setCell _ _ _ _ (by simp)).trans h.r, three_set1 h.s, h.below.setCell (by simp) _⟩
theorem NsAt.set2 {w wr : World} {sv dv : Value} {m m' : Option Nat} (h : NsAt w wr sv dv m) : NsAt w (wr.setCell ⟨w.heap.size + 1, 2, none⟩ (.map m')) sv dv m' :=
  ⟨(Below.heap_setCell _ _ _ _ (by simp)).trans h.r, three_set2 h.s, h.below.setCell (by simp) _⟩

theorem three_all {w : World} {B : Nat} {x y z x' y' z' : Value} {t : TypeId} (h : w.heap[B]? = some (.cells #[x, y, z] t (0, 0))) :
    (((w.setCell ⟨B, 0, none⟩ x').setCell ⟨B, 1, none⟩ y').setCell ⟨B, 2, none⟩ z').heap[B]? = some (.cells #[x', y', z'] t (0, 0)) := by
  have h0 : (w.setCell ⟨B, 0, none⟩ x').heap[B]? = some (.cells #[x', y, z] t (0, 0)) := by
    obtain ⟨hlt, hk⟩ := Array.getElem?_eq_some_iff.1 h
    show (w.heap.modify B _)[B]? = _
    rw [Array.getElem?_eq_getElem (by rw [Array.size_modify]; exact hlt), Array.getElem_modify_self, hk]
    rfl
  exact three_set2 (three_set1 h0)

/-- The result's block is filled: 'return s'. -/
theorem NsAt.done {w wr : World} {sv dv : Value} {m : Option Nat} (h : NsAt w wr sv dv m) :
    let w' := ((wr.setCell ⟨w.heap.size, 0, none⟩ sv).setCell ⟨w.heap.size, 1, none⟩ dv).setCell ⟨w.heap.size, 2, none⟩ (.map m)
    (w'.cell? ⟨w.heap.size, 0, none⟩ = some sv ∧ w'.cell? ⟨w.heap.size, 1, none⟩ = some dv ∧ w'.cell? ⟨w.heap.size, 2, none⟩ = some (.map m)) ∧ Below w.heap.size w w' :=
  ⟨(three (three_all h.r)).1, ((h.below.setCell (Nat.le_refl _) _).setCell (Nat.le_refl _) _).setCell (Nat.le_refl _) _⟩

theorem NsAt.alloc {w wr : World} {sv dv : Value} {m : Option Nat} (h : NsAt w wr sv dv m) (o : Obj) : NsAt w (wr.alloc o) sv dv m :=
  ⟨(Below.heap_alloc _ _ _ (by have := (three h.r).2.2; omega)).trans h.r, (Below.heap_alloc _ _ _ (three h.s).2.2).trans h.s, h.below.alloc h.below.size _⟩

theorem NsAt.grown {w wr w2 : World} {sv dv : Value} {m : Option Nat} {bm : Nat} (h : NsAt w wr sv dv m) (hg : wr.grownBy w2 (some bm)) (hbm : w.heap.size + 2 ≤ bm) : NsAt w w2 sv dv m :=
  ⟨(hg.block _ (three h.r).2.2 (by simp; omega)).trans h.r, (hg.block _ (three h.s).2.2 (by simp; omega)).trans h.s, h.below.grown hg h.below.size (fun k e => by cases e; omega)⟩

theorem NsAt.make {w wr : World} {sv dv : Value} (h : NsAt w wr sv dv none) :
    NsAt w ((wr.setCell ⟨w.heap.size + 1, 2, none⟩ (.map (some wr.heap.size))).alloc (.map #[] 0)) sv dv (some wr.heap.size) ∧
    ((wr.setCell ⟨w.heap.size + 1, 2, none⟩ (.map (some wr.heap.size))).alloc (.map #[] 0)).ownsMap Yba.prog 9 (plainElem Yba.prog 4) wr.heap.size 0 (Dm (fun _ => ByteArray.empty) 0) := by
  refine ⟨h.set2.alloc _, ?_⟩
  have := World.ownsMap_made (H := Unit) (wr.setCell ⟨w.heap.size + 1, 2, none⟩ (.map (some wr.heap.size))) Yba.prog 9 (plainElem Yba.prog 4)
  rwa [show (wr.setCell ⟨w.heap.size + 1, 2, none⟩ (.map (some wr.heap.size))).heap.size = wr.heap.size from by simp] at this

theorem ownsMap_set {w : World} {bm n : Nat} {D : DataW Unit} (h : w.ownsMap Yba.prog 9 (plainElem Yba.prog 4) bm n D) (a : Addr) (v : Value) (hne : bm ≠ a.block) : (w.setCell a v).ownsMap Yba.prog 9 (plainElem Yba.prog 4) bm n D := by
  obtain ⟨es, clock, hb, F, hs, hD⟩ := h
  exact ⟨es, clock, (Below.heap_setCell _ _ _ _ hne).trans hb, F, hs, hD⟩

theorem NsAt.done_map {w wr : World} {sv dv : Value} {m : Option Nat} (_h : NsAt w wr sv dv m) {bm n : Nat} {D : DataW Unit} (ho : wr.ownsMap Yba.prog 9 (plainElem Yba.prog 4) bm n D) (hbm : w.heap.size < bm) :
    (((wr.setCell ⟨w.heap.size, 0, none⟩ sv).setCell ⟨w.heap.size, 1, none⟩ dv).setCell ⟨w.heap.size, 2, none⟩ (.map m)).ownsMap Yba.prog 9 (plainElem Yba.prog 4) bm n D :=
  ownsMap_set (ownsMap_set (ownsMap_set ho _ _ (by simp; omega)) _ _ (by simp; omega)) _ _ (by simp; omega)

set_option maxRecDepth 100000 in
set_option maxHeartbeats 1000000 in
theorem newSet_some (hS : SortedSaid) (hC : CompactSaid) (b off len cap : Nat) (S : Nat → ByteArray) (w : World) (hlen : len ≤ 4096) (hb : b < w.heap.size) (hc : ∀ j, j < len → w.cell? ⟨b, off + j, none⟩ = some (.string (S j)) ∧ (S j).size ≤ maxLen) :
    Calls Yba.prog 6 #[.slice (some ⟨b, off, none⟩) len cap] w fun e w' => ∃ da dl dc m, e = .returned (.agg #[.slice (some ⟨b, off, none⟩) len cap, .slice da dl dc, .map m]) ∧ IndexAt w' len S m ∧ (∀ bm, m = some bm → w.heap.size ≤ bm) ∧ Below w.heap.size w w' := by
  have hmm := fun n w => run_makeMap_hint (P := Yba.prog) 25 9 4 Yba.underlying25 n w
  have Hc := hide hc
  clear hc
  go_enter Yba.func6, Yba.ntmps6
  go_upto_block 0 with fail
  go_cut [4] (fun _ wx => ∃ da dl dc, NsAt w wx (.slice (some ⟨b, off, none⟩) len cap) (.slice da dl dc) none)
  case first =>
    go_wp2_with fail
    go_loopw [4] (fun i wr => ∃ k : Nat, 1 ≤ k ∧ (k = 1 ∨ k ≤ len) ∧ i = .int .i64 k ∧ NsAt w wr (.slice (some ⟨b, off, none⟩) len cap) (.slice (some ⟨b, off, none⟩) len cap) none) (fun i _ => len - (intOf i).toNat)
    case atStart => exact ⟨1, by omega, .inl rfl, rfl, ns_start w _⟩
    case round =>
      obtain ⟨k, hk, hk2, rfl, hN⟩ := hrel
      by_cases hlt : k < len
      · have hc0 := (hN.below.cell (p := ⟨b, off + (k - 1), none⟩) hb).trans ((unhide Hc) (k - 1) (by omega)).1
        have hc1 := (hN.below.cell (p := ⟨b, off + k, none⟩) hb).trans ((unhide Hc) k hlt).1
        go_wp2_with fail
        go_quiet (fail)
        have hN1 : NsAt w (wr.drewN nq) (.slice (some ⟨b, off, none⟩) len cap) (.slice (some ⟨b, off, none⟩) len cap) none := ⟨hN.r, hN.s, ⟨hN.below.os, hN.below.tape, hN.below.output, hN.below.size, hN.below.block⟩⟩
        have hcs : ∀ j, j < len → (wr.drewN nq).cell? ⟨b, off + j, none⟩ = some (.string (S j)) := fun j hj => (hN.below.cell (p := ⟨b, off + j, none⟩) hb).trans ((unhide Hc) j hj).1
        have h9 := hide (hS b off len cap S (wr.drewN nq) hlen (Nat.lt_of_lt_of_le hb hN.below.size) hcs)
        clear hcs
        go_wp2_with (go_at_call 10; refine (values_call _ _ _ _).mono ?_; rintro e w1 ⟨rfl, rfl⟩)
        · refine (unhide h9).mono ?_
          rintro e w1 ⟨v, ss, rfl, hrow, hle, hb1⟩
          have h8 := hide (hC _ v ss w1 hrow hle)
          clear hrow
          go_wp2_with fail
          refine (unhide h8).mono ?_
          rintro e w2 ⟨da, dl, dc, rfl, hb2⟩
          have hN2 := hN1.later hb1 hb2
          clear hb1 hb2 hN1 hN
          obtain ⟨⟨s0, s1, s2⟩, ⟨f0, f1, f2⟩, hsz⟩ := three hN2.s
          go_wp2_with fail
          go_meet
          case rel => exact ⟨da, dl, dc, hN2.set1⟩
        · go_roundw
          case rel => exact ⟨k + 1, by omega, by omega, by go_num, hN1⟩
          case measure => simp [intOf]; omega
      · go_wp2_with fail
        go_meet
        case rel => exact ⟨_, _, _, hN⟩
  case rest =>
    obtain ⟨da, dl, dc, hN⟩ := hcut
    obtain ⟨⟨s0, s1, s2⟩, ⟨f0, f1, f2⟩, hsz⟩ := three hN.s
    obtain ⟨⟨r0, r1, r2⟩, ⟨g0, g1, g2⟩, hrz⟩ := three hN.r
    by_cases h8 : len ≤ 8
    · have hN3 := hN.done
      go_wp2_with fail
      exact bodyPost_ret (v := .agg #[.slice (some ⟨b, off, none⟩) len cap, .slice da dl dc, .map none]) (by simp [results, Yba.results6, go_sem, hN3.1]) rfl ⟨da, dl, dc, none, rfl, .inl rfl, by simp, hN3.2⟩
    · have hM := hN.make
      have hlt8 : (8 : Int) < (len : Int) := by omega
      clear s0 s1 f0 f1 r0 r1 r2 g0 g1 g2
      go_wp2_with fail
      clear s2 f2
      go_loopw [40] (fun i wr => ∃ k : Nat, k ≤ len ∧ i = .int .i64 k ∧ NsAt w wr (.slice (some ⟨b, off, none⟩) len cap) (.slice da dl dc) (some wc.heap.size) ∧ wr.ownsMap Yba.prog 9 (plainElem Yba.prog 4) wc.heap.size k (Dm S k)) (fun i _ => len - (intOf i).toNat)
      case atStart => exact ⟨0, Nat.zero_le _, rfl, hM.1, hM.2⟩
      case round =>
        obtain ⟨k, hk, rfl, hNr, hown⟩ := hrel
        clear hM
        by_cases hlt : k < len
        · have hcx := (hNr.below.cell (p := ⟨b, off + k, none⟩) hb).trans ((unhide Hc) k hlt).1
          have hkey := keyOf_string_mk (P := Yba.prog) Yba.underlying9 ((unhide Hc) k hlt).2
          have Hkey := hide hkey
          clear hkey
          obtain ⟨⟨_, _, s2⟩, _, _⟩ := three hNr.s
          go_wp2_with (at_mapUpdate; refine wpList_mapUpdate_own _ rfl _ _ _ 25 rfl 9 4 (string_keyed Yba.underlying9) Yba.underlying25 _ wc.heap.size k _ rfl hown (by unfold maxLen; omega) _ _ _ rfl rfl (unhide Hkey) _ [] (plainElem_bool Yba.underlying4 true) ?_; intro w1 hown1 hgrow1)
          have hN1 := hNr.grown hgrow1 (by omega)
          clear hgrow1 hNr hown hcx s2
          go_roundw
          case rel => exact ⟨k + 1, by omega, by go_num, hN1, hown1⟩
          case measure => simp [intOf]; omega
        · obtain rfl : k = len := by omega
          obtain ⟨⟨s0, s1, s2⟩, _, _⟩ := three hNr.s
          obtain ⟨⟨r0, r1, r2⟩, ⟨g0, g1, g2⟩, _⟩ := three hNr.r
          have hN3 := hNr.done
          have hO3 := hNr.done_map hown (by omega)
          go_wp2_with fail
          exact bodyPost_ret (v := .agg #[.slice (some ⟨b, off, none⟩) k cap, .slice da dl dc, .map (some wc.heap.size)]) (by simp [results, Yba.results6, go_sem, hN3.1]) rfl ⟨da, dl, dc, some wc.heap.size, rfl, .inr ⟨_, _, _, rfl, hO3, fun v _ => Dm_at S v k⟩, by simp; omega, hN3.2⟩

set_option maxRecDepth 100000 in
set_option maxHeartbeats 400000 in
theorem newSet_empty (a : Option Addr) (cap : Nat) (S : Nat → ByteArray) (w : World) :
    Calls Yba.prog 6 #[.slice a 0 cap] w fun e w' => ∃ da dl dc m, e = .returned (.agg #[.slice a 0 cap, .slice da dl dc, .map m]) ∧ IndexAt w' 0 S m ∧ (∀ bm, m = some bm → w.heap.size ≤ bm) ∧ Below w.heap.size w w' := by
  go_enter Yba.func6, Yba.ntmps6
  go_wp2_with fail
  refine wp_loop_rounds 1 ?_
  rw [rounds_succ]
  go_wp2_with fail
  exact bodyPost_ret (v := .agg #[.slice a 0 cap, .slice a 0 cap, .map none]) (by simp [results, Yba.results6, go_sem]) rfl ⟨a, 0, cap, none, rfl, .inl rfl, by simp, ((Below.refl _ w).alloc (Nat.le_refl _) _).alloc (by simp) _⟩

theorem newSet_any (hS : SortedSaid) (hC : CompactSaid) (a : Option Addr) (len cap : Nat) (S : Nat → ByteArray) (w : World) (hlen : len ≤ 4096) (hs : Strs w a len S) :
    Calls Yba.prog 6 #[.slice a len cap] w fun e w' => ∃ da dl dc m, e = .returned (.agg #[.slice a len cap, .slice da dl dc, .map m]) ∧ IndexAt w' len S m ∧ (∀ bm, m = some bm → w.heap.size ≤ bm) ∧ Below w.heap.size w w' := by
  rcases hs with ⟨rfl, rfl⟩ | ⟨b, off, rfl, hb, hc⟩
  · exact newSet_empty none cap S w
  · exact newSet_some hS hC b off len cap S w hlen hb hc

end Go.Proofs.Ybulkbslg
