/-
  Seat b3462aF: the walk of LawS3462AMatchesModel (function 3).
-/
import Derived.Test.YbulkbsreFmtDigits
import Derived.Laws.CopyOwn
namespace Go.Proofs.YbulkbsreFmt
open Go.RowKit Go.Extern.Stop Go.Stop Go.Extern
set_option linter.unusedVariables false

theorem info5 : (Ybaf.prog.info? 5).map (fun i => (i.zero, i.size, i.bytes)) = some (some (.int .u8 0), 1, 1) := by kernel_rfl

/-- A slice of bytes that came in. -/
def ArgB (w : World) (a : Option Addr) (len : Nat) (P : Nat → Int) : Prop :=
  0 < len → ∃ b o, a = some ⟨b, o, none⟩ ∧ ∀ j, j < len → w.cell? ⟨b, o + j, none⟩ = some (.int .u8 (P j)) ∧ 0 ≤ P j ∧ P j ≤ 255

def seg (Z : Nat → Int) (n : Nat) : List Value := (List.range n).map fun j => .int .u8 (Z j)
theorem seg_length (Z : Nat → Int) (n : Nat) : (seg Z n).length = n := by simp [seg]
theorem seg_one (Z : Nat → Int) (n : Nat) : ∀ u ∈ seg Z n, u.oneCell' = true := by
  intro u hu
  simp only [seg, List.mem_map] at hu
  obtain ⟨j, _, rfl⟩ := hu
  rfl

/-- Block g holds n bytes, the first k of them Z's. -/
def Row (w : World) (g n k : Nat) (Z : Nat → Int) : Prop := ∃ C : Array Value, w.heap[g]? = some (.cells C 5 (0, 0)) ∧ C.size = n ∧ (∀ j, j < n → ∃ z, C[j]? = some (.int .u8 z)) ∧ ∀ j, j < k → C[j]? = some (.int .u8 (Z j))
theorem Row.cell {w : World} {g n k : Nat} {Z : Nat → Int} (h : Row w g n k Z) (j : Nat) (hj : j < k) : w.cell? ⟨g, j, none⟩ = some (.int .u8 (Z j)) := by
  obtain ⟨C, hC, hs, _, hz⟩ := h
  simp only [World.cell?, hC]
  exact hz j hj
theorem Row.has {w : World} {g n k : Nat} {Z : Nat → Int} (h : Row w g n k Z) (j : Nat) (hj : j < n) : (∃ z, w.cell? ⟨g, j, none⟩ = some (.int .u8 z)) ∧ w.frozen? ⟨g, j, none⟩ = false := by
  obtain ⟨C, hC, hs, hz, _⟩ := h
  obtain ⟨z, hz⟩ := hz j hj
  exact ⟨⟨z, by simp only [World.cell?, hC]; exact hz⟩, by simp [World.frozen?, hC]⟩
theorem Row.set {w : World} {g n k : Nat} {Z : Nat → Int} (h : Row w g n k Z) (hk : k < n) : Row (w.setCell ⟨g, k, none⟩ (.int .u8 (Z k))) g n (k + 1) Z := by
  obtain ⟨C, hC, hs, hz, hd⟩ := h
  refine ⟨C.setIfInBounds k (.int .u8 (Z k)), heap_setCell_same w g k C 5 _ hC, by simpa using hs, fun j hj => ?_, fun j hj => ?_⟩
  · by_cases e : j = k
    · subst e; exact ⟨Z j, by simp [hs, hk]⟩
    · obtain ⟨z, hz⟩ := hz j hj
      exact ⟨z, by rw [Array.getElem?_setIfInBounds_ne (by omega)]; exact hz⟩
  · by_cases e : j = k
    · subst e; simp [hs, hk]
    · rw [Array.getElem?_setIfInBounds_ne (by omega)]
      exact hd j (by omega)
theorem Row.same {w w' : World} {g n k : Nat} {Z : Nat → Int} (h : Row w g n k Z) (e : w'.heap[g]? = w.heap[g]?) : Row w' g n k Z := by
  obtain ⟨C, hC, r⟩ := h
  exact ⟨C, e.trans hC, r⟩
theorem Row.lt {w : World} {g n k : Nat} {Z : Nat → Int} (h : Row w g n k Z) : g < w.heap.size := by
  obtain ⟨C, hC, _⟩ := h
  rcases Nat.lt_or_ge g w.heap.size with h | h
  · exact h
  · rw [Array.getElem?_eq_none h] at hC
    cases hC

theorem owned_row {w : World} {base g n : Nat} {Z : Nat → Int} (h : w.ownsRow base 5 1 (.slice (some ⟨g, 0, none⟩) n n) n (madeCells (Value.int .u8 0).cells (n * 1)).toList) : Row w g n 0 Z := by
  rcases h.2 with ⟨e, -⟩ | ⟨g', cap, cur, e, hb, hh, -, -, hc, ht⟩
  · cases e
  · cases e
    refine ⟨cur, hh, by simpa using hc, fun j hj => ⟨0, ?_⟩, fun j hj => absurd hj (by omega)⟩
    have h2 : cur.toList = (madeCells (Value.int .u8 0).cells (n * 1)).toList := by
      rw [← ht, List.take_of_length_le (by simp [hc])]
    have h3 : cur[j]? = cur.toList[j]? := by simp
    rw [h3, h2]
    have h1 : j < n * 1 := by omega
    simp [madeCells, Value.cells]
    exact ⟨j, by simp [hj], by rw [Nat.mod_one]; rfl⟩

theorem Row.whole {w : World} {g n : Nat} {Z : Nat → Int} (h : w.heap[g]? = some (.cells (seg Z n).toArray 5 (0, 0))) : Row w g n n Z :=
  ⟨_, h, by simp [seg], fun j hj => ⟨Z j, by simp [seg, hj]⟩, fun j hj => by simp [seg, hj]⟩

theorem owned_block {w : World} {base g n : Nat} {xs : List Value} (h : w.ownsRow base 5 1 (.slice (some ⟨g, 0, none⟩) n n) n xs) : base ≤ g ∧ ∃ cur : List Value, w.heap[g]? = some (.cells cur.toArray 5 (0, 0)) ∧ cur.length = n := by
  rcases h.2 with ⟨e, -⟩ | ⟨g', cap, cur, e, hb, hh, -, -, hc, -⟩
  · cases e
  · cases e
    exact ⟨hb, cur.toList, by simpa using hh, by simpa using hc⟩
theorem splice_all (cur cs : List Value) (h : cur.length = cs.length) : splice cur 0 cs = cs := by
  simp [splice, ← h]
theorem row_news {w : World} {g n : Nat} {Z : Nat → Int} (h : Row w g n n Z) : ∀ j u, (seg Z n)[j]? = some u → w.cell? ((⟨g, 0, none⟩ : Addr).add j) = some u := by
  intro j u hu
  have hj : j < n := by
    have := (List.getElem?_eq_some_iff.1 hu).1
    rwa [seg_length] at this
  have hu' : u = .int .u8 (Z j) := by
    simp only [seg, List.getElem?_map, List.getElem?_range hj, Option.map_some, Option.some.injEq] at hu
    exact hu.symm
  rw [hu', Go.WideShapes.add_plain, Nat.zero_add]
  exact h.cell j hj

/-- What stands behind the call of digits. -/
def Inv (w W : World) (g G n : Nat) (Z : Nat → Int) : Prop := Row W g n n Z ∧ Row W G n n Z ∧ Below g w W
theorem Inv.drewN {w W : World} {g G n : Nat} {Z : Nat → Int} (h : Inv w W g G n Z) (m : Nat) : Inv w (W.drewN m) g G n Z := ⟨h.1, h.2.1, ⟨h.2.2.os, h.2.2.tape, h.2.2.output, h.2.2.size, h.2.2.block⟩⟩

theorem assertErr (v : Value) (w : World) : (Instr.typeAssert (.iface 28 v) 25 28 true).run Ybaf.prog w = .ok (.tuple #[v, .bool true]) w := by kernel_rfl

/-- The table's q-th byte. -/
def tabB (q : Nat) : Int := if q < 10 then 48 + q else if q = 10 then 97 else if q = 11 then 45 else 46
theorem tab_byte (q : Nat) (h : q < (ByteArray.mk #[48, 49, 50, 51, 52, 53, 54, 55, 56, 57, 97, 45, 46]).size) :
    (((ByteArray.mk #[48, 49, 50, 51, 52, 53, 54, 55, 56, 57, 97, 45, 46])[q]'h).toNat : Int) = tabB q := by
  have h' : q < 13 := h
  match q, h' with
  | 0, _ => rfl | 1, _ => rfl | 2, _ => rfl | 3, _ => rfl | 4, _ => rfl | 5, _ => rfl | 6, _ => rfl | 7, _ => rfl
  | 8, _ => rfl | 9, _ => rfl | 10, _ => rfl | 11, _ => rfl | 12, _ => rfl
  | n + 13, hn => exact absurd hn (by omega)
theorem tab_range (q : Nat) (h : q < 13) : 0 ≤ tabB q ∧ tabB q ≤ 255 := by
  unfold tabB
  split
  · omega
  · split
    · omega
    · split <;> omega

/-- What body holds. -/
def Zof (mp : Bool) (P : Nat → Int) (j : Nat) : Int := if mp = true then tabB (P j % 13).toNat else P j

theorem Zof_range (mp : Bool) (P : Nat → Int) (j : Nat) (h : 0 ≤ P j ∧ P j ≤ 255) : 0 ≤ Zof mp P j ∧ Zof mp P j ≤ 255 := by
  unfold Zof
  split
  · exact tab_range _ (by omega)
  · exact h

set_option maxRecDepth 100000 in
set_option maxHeartbeats 400000 in
theorem main_long (a0 : Option Addr) (n cap : Nat) (x : Int) (mp : Bool) (w : World) (h : 4096 < n) :
    Calls Ybaf.prog 3 #[.slice a0 n cap, .int .u64 x, .bool mp] w fun e w' => e = .returned (.bool true) ∧ Below w.heap.size w w' := by
  have h' : (4096 : Int) < (n : Int) := by omega
  go_enter Ybaf.func3, Ybaf.ntmps3
  go_wp2_with fail
  go_ret
  exact ⟨rfl, Below.refl _ w⟩

set_option maxRecDepth 100000 in
set_option maxHeartbeats 4000000 in
theorem main_walk (F : Interp) (a0 : Option Addr) (n cap : Nat) (x : Int) (mp : Bool) (P : Nat → Int) (w : World) (hn : n ≤ 4096) (hx0 : 0 ≤ x) (hx1 : x < 18446744073709551616) (hA : ArgB w a0 n P) (hF : F.answers w.tape) :
    Calls Ybaf.prog 3 #[.slice a0 n cap, .int .u64 x, .bool mp] w fun e w' => e = .returned (.bool true) ∧ Below w.heap.size w w' := by
  obtain ⟨i0, hi, hz0, hz1, hz2⟩ := info_parts info5
  have hAs := assertErr
  have hsz5 : (Ybaf.prog.info? 5).map (·.size) = some 1 := by kernel_rfl
  have HA := hide hA
  have HF := hide hF
  clear hA hF
  have d0 : decide ((4096 : Int) < (n : Int)) = false := by simp; omega
  obtain ⟨off, hoff⟩ : ∃ off : Nat, x % ((n : Int) + 1) = (off : Int) := ⟨(x % ((n : Int) + 1)).toNat, by have := Int.emod_nonneg x (show ((n : Int) + 1) ≠ 0 by omega); omega⟩
  have hoffn : off ≤ n := by have := Int.emod_lt_of_pos x (show 0 < ((n : Int) + 1) by omega); omega
  have Hoff := hide hoff
  clear hoff
  obtain ⟨Z, hZ⟩ : ∃ Z, Z = Zof mp P := ⟨_, rfl⟩
  have HZ := hide hZ
  clear hZ
  go_enter Ybaf.func3, Ybaf.ntmps3
  go_wp2_with ((at_make; refine wpList_make_full _ rfl _ _ 22 rfl w.heap.size 5 i0 _ 1 Ybaf.underlying22 hi hz0 hz1 _ _ _ _ n rfl rfl rfl rfl (by rw [hz2]; omega) (by unfold maxLen; omega) (Nat.le_refl _) ?_; intro wm hown hgm; have hrow := owned_row (Z := Z) hown; have hbm : Below w.heap.size w wm := (Below.refl _ w).grown hgm (Nat.le_refl _) (by simp); clear hown hgm))
  obtain ⟨g, hgg⟩ : ∃ g, g = w.heap.size := ⟨_, rfl⟩
  have Hgg := hide hgg
  rw [← hgg] at hrow hbm ⊢
  clear hgg
  have Hrow := hide hrow
  have Hbm := hide hbm
  clear hrow hbm
  go_loopw [8] (fun iv wr => ∃ k : Nat, k ≤ n ∧ iv = .int .i64 k ∧ Row wr g n k Z ∧ Below g w wr) (fun iv _ => n - (intOf iv).toNat)
  case atStart => exact ⟨0, by omega, rfl, unhide Hrow, unhide Hbm⟩
  case round =>
    obtain ⟨k, hk, rfl, hrow, hbe⟩ := hrel
    by_cases hlt : k < n
    · obtain ⟨b, o, rfl, hcs⟩ := (unhide HA) (by omega)
      obtain ⟨hck, hp0, hp1⟩ := hcs k hlt
      have hck' : wr.cell? ⟨b, o + k, none⟩ = some (.int .u8 (P k)) := (hbe.cell (by rw [unhide Hgg]; exact World.block_lt_of_cell? w _ hck)).trans hck
      obtain ⟨⟨z, hz⟩, hfz⟩ := hrow.has k hlt
      have hzk : Hid (Z k = Zof mp P k) := hide (by rw [unhide HZ])
      have hset := hide (hrow.set hlt)
      have Hbe := hide hbe
      clear hcs hck hrow hbe
      generalize hpk : P k = pk at hck' hp0 hp1
      have Hpk := hide hpk
      clear hpk
      cases mp with
      | false =>
        have e1 : Z k = pk := by rw [unhide hzk, ← unhide Hpk]; rfl
        rw [e1] at hset
        clear e1
        go_wp2_with fail
        exact ⟨⟨k + 1, by omega, by go_num, unhide hset, (unhide Hbe).setCell (Nat.le_refl _) _⟩, by simp [intOf]; omega⟩
      | true =>
        obtain ⟨q, hq⟩ : ∃ q : Nat, pk % 13 = (q : Int) := ⟨(pk % 13).toNat, by omega⟩
        have hq13 : q < 13 := by omega
        have e1 : Z k = tabB q := by rw [unhide hzk, Zof, if_pos rfl, unhide Hpk, hq]; rfl
        rw [e1] at hset
        clear e1
        go_wp2_with fail
        rw [tab_byte]
        exact ⟨⟨k + 1, by omega, by go_num, unhide hset, (unhide Hbe).setCell (Nat.le_refl _) _⟩, by simp [intOf]; omega⟩
    · obtain rfl : k = n := by omega
      have hlk := hrow.lt
      have Hrow2 := hide hrow
      have Hbe := hide hbe
      clear hrow hbe Hrow Hbm
      obtain ⟨G, hG⟩ : ∃ G, G = wr.heap.size := ⟨_, rfl⟩
      have HG := hide hG
      clear hG
      go_wp2_with (first | (at_make; refine wpList_make_full _ rfl _ _ 22 rfl wr.heap.size 5 i0 _ 1 Ybaf.underlying22 hi hz0 hz1 _ _ _ _ k rfl rfl rfl rfl (by rw [hz2]; omega) (by unfold maxLen; omega) (Nat.le_refl _) ?_; intro wm2 hown2 hgm2; rw [← unhide HG]; rw [← unhide HG] at hown2; obtain ⟨-, cur, hcur, hcl⟩ := owned_block hown2; have hbm2 : Below wr.heap.size wr wm2 := (Below.refl _ wr).grown hgm2 (Nat.le_refl _) (by simp); have hsrc := row_news ((unhide Hrow2).same (hbm2.block g hlk)); clear hown2 hgm2) | (refine wpList_copy_splice rfl (.tmp 46) (.tmp 47) 22 22 rfl 5 Ybaf.underlying22 hsz5 _ _ _ _ _ _ rfl rfl G 0 cur 5 hcur (seg Z k) (by rw [seg_length]; exact (Nat.min_self k).symm) (fun _ => ⟨rfl, ⟨g, 0, none⟩, rfl, hsrc⟩) (by rw [seg_length]; omega) (seg_one _ _) wr.heap.size wr hbm2 (by rw [unhide HG]; exact Nat.le_refl _) ?_; intro wc hwc hbc))
      have hw64 : wrap64 (off : Int) = off := by unfold wrap64; omega
      rw [unhide Hoff, hw64]
      clear hw64
      have hrg : ∀ j, j < k → 0 ≤ Z j ∧ Z j ≤ 255 := fun j hj => by
        rw [unhide HZ]
        obtain ⟨b, o, -, hcs⟩ := (unhide HA) (by omega)
        exact Zof_range mp P j (hcs j hj).2
      have hr1 : Row wc g k k Z := (unhide Hrow2).same (hbc.block g hlk)
      have hr2 : Row wc G k k Z := Row.whole (by rw [unhide hwc, splice_all cur _ (by rw [seg_length]; exact hcl)])
      have hbw : Below g w wc := (unhide Hbe).trans (hbc.mono (by omega))
      have hgG : g < G := by rw [unhide HG]; exact hlk
      have hGs : G < wc.heap.size := hr2.lt
      clear hbc hwc hcur hcl hsrc hbm2 d0
      obtain ⟨J, hJ1, hJ2, hJ3, hJ4⟩ := run_end Z off k hoffn
      have Hrg := hide hrg
      clear hrg hlk
      by_cases hend : off = k
      · subst hend
        refine (digits_end F (some ⟨g, 0, none⟩) off off wc (by rw [hbw.tape]; exact unhide HF)).mono ?_
        rintro e W3 ⟨pb, rfl, hpb, hps, hb3⟩
        have Hinv0 : Hid (Inv w W3 g G off Z ∧ W3.cell? ⟨pb, 0, none⟩ = some (.int .i64 off)) := hide ⟨⟨hr1.same (hb3.block g (by omega)), hr2.same (hb3.block G hGs), hbw.trans (hb3.mono (by omega))⟩, hpb⟩
        clear hr1 hr2 hbw hb3 hJ1 hJ2 hJ3 hJ4 hpb
        go_wp2_with fail
        go_loopw [14] (fun iv wr' => ∃ j : Nat, j ≤ off ∧ iv = .int .i64 j ∧ Inv w wr' g G off Z ∧ wr'.cell? ⟨pb, 0, none⟩ = some (.int .i64 off)) (fun iv _ => off - (intOf iv).toNat)
        case atStart => exact ⟨0, by omega, rfl, unhide Hinv0⟩
        case round =>
          obtain ⟨j, hj, rfl, hinv, hpb⟩ := hrel
          by_cases hlt2 : j < off
          · have hc1 := hinv.1.cell j hlt2
            have hc2 := hinv.2.1.cell j hlt2
            have hne : (0 : Int) ≤ (j : Int) := by omega
            have hlt3 : (j : Int) < (off : Int) := by omega
            have Hinv := hide hinv
            clear hinv
            generalize hzj : Z j = zj at hc1 hc2
            clear hzj
            go_wp2_with fail
            go_quiet (fail)
            go_wp2_with fail
            exact ⟨⟨j + 1, by omega, by go_num, (unhide Hinv).drewN _, hpb⟩, by simp [intOf]; omega⟩
          · obtain rfl : j = off := by omega
            have fin : ∀ m, Below w.heap.size w (wr.drewN m) := fun m => by
              have hb := hinv.2.2
              rw [unhide Hgg] at hb
              exact ⟨hb.os, hb.tape, hb.output, hb.size, hb.block⟩
            clear hinv
            go_wp2_with fail
            go_ret
            exact ⟨rfl, fin 0⟩
      · have hlo : off < k := by omega
        by_cases hdig : Dig (Z off)
        · have hJo : off < J := by
            rcases Nat.lt_or_ge off J with h | h
            · exact h
            · exact absurd hdig ((show J = off by omega) ▸ hJ4 (by omega))
          refine (digits_ok g 0 k k off J Z wc (by omega) hJo hJ2 (fun j hj => ⟨by rw [Nat.zero_add]; exact hr1.cell j hj, (unhide Hrg) j hj⟩) hJ3 hJ4).mono ?_
          rintro e W3 ⟨rfl, rfl⟩
          have Hinv0 : Hid (Inv w W3 g G k Z) := hide ⟨hr1, hr2, hbw⟩
          have HJ3 := hide hJ3
          have HJ4 := hide hJ4
          have Hdig := hide hdig
          clear hr1 hr2 hbw hJ3 hJ4 hdig
          go_wp2_with fail
          go_loopw [14] (fun iv wr' => ∃ j : Nat, j ≤ k ∧ iv = .int .i64 j ∧ Inv w wr' g G k Z) (fun iv _ => k - (intOf iv).toNat)
          case atStart => exact ⟨0, by omega, rfl, unhide Hinv0⟩
          case round =>
            obtain ⟨j, hj, rfl, hinv⟩ := hrel
            by_cases hlt2 : j < k
            · have hc1 := hinv.1.cell j hlt2
              have hc2 := hinv.2.1.cell j hlt2
              have hne : (0 : Int) ≤ (j : Int) := by omega
              have hlt3 : (j : Int) < (k : Int) := by omega
              have Hinv := hide hinv
              clear hinv
              generalize hzj : Z j = zj at hc1 hc2
              clear hzj
              go_wp2_with fail
              go_quiet (fail)
              go_wp2_with fail
              exact ⟨⟨j + 1, by omega, by go_num, (unhide Hinv).drewN _⟩, by simp [intOf]; omega⟩
            · obtain rfl : j = k := by omega
              have fin : ∀ m, Below w.heap.size w (wr.drewN m) := fun m => by
                have hb := hinv.2.2
                rw [unhide Hgg] at hb
                exact ⟨hb.os, hb.tape, hb.output, hb.size, hb.block⟩
              have Hinv := hide hinv
              have hco := hinv.1.cell off hlo
              obtain ⟨q1, q2⟩ := unhide Hdig
              clear hinv
              generalize hzo : Z off = zo at hco q1 q2
              clear hzo
              have hbq : ((off : Int) == (j : Int)) = false := by simp; omega
              go_wp2_with fail
              clear hco
              go_loopw [17] (fun iv wr' => ∃ p : Nat, off ≤ p ∧ p ≤ J ∧ iv = .int .i64 p ∧ Inv w wr' g G j Z) (fun iv _ => J - (intOf iv).toNat)
              case atStart => exact ⟨off, Nat.le_refl _, by omega, rfl, unhide Hinv⟩
              case round =>
                obtain ⟨p, hp1, hp2, rfl, hinv⟩ := hrel
                have fin2 : ∀ m, Below w.heap.size w (wr.drewN m) := fun m => by
                  have hb := hinv.2.2
                  rw [unhide Hgg] at hb
                  exact ⟨hb.os, hb.tape, hb.output, hb.size, hb.block⟩
                have Hinv2 := hide hinv
                by_cases hpJ : p < J
                · have hcp := hinv.1.cell p (by omega)
                  obtain ⟨r1, r2⟩ := (unhide HJ3) p hp1 hpJ
                  have hpj : (p : Int) < (j : Int) := by omega
                  clear hinv
                  generalize hzp : Z p = zp at hcp r1 r2
                  clear hzp
                  go_wp2_with fail
                  exact ⟨⟨p + 1, by omega, by omega, by go_num, unhide Hinv2⟩, by simp [intOf]; omega⟩
                · obtain rfl : p = J := by omega
                  by_cases hpj : p < j
                  · have hcp := hinv.1.cell p hpj
                    have hnd : ¬ (48 ≤ Z p ∧ Z p ≤ 57) := (unhide HJ4) hpj
                    clear hinv
                    generalize hzp : Z p = zp at hcp hnd
                    clear hzp
                    go_wp2_with fail
                    all_goals (go_ret; exact ⟨rfl, fin2 0⟩)
                  · clear hinv
                    go_wp2_with fail
                    all_goals (go_ret; exact ⟨rfl, fin2 0⟩)
        · refine (digits_bad F g 0 k k off (Z off) wc (by rw [hbw.tape]; exact unhide HF) (by omega) hlo (by rw [Nat.zero_add]; exact hr1.cell off hlo) ((unhide Hrg) off hlo).1 ((unhide Hrg) off hlo).2 hdig).mono ?_
          rintro e W3 ⟨pb, rfl, hpb, hps, hb3⟩
          have Hinv0 : Hid (Inv w W3 g G k Z ∧ W3.cell? ⟨pb, 0, none⟩ = some (.int .i64 off)) := hide ⟨⟨hr1.same (hb3.block g (by omega)), hr2.same (hb3.block G hGs), hbw.trans (hb3.mono (by omega))⟩, hpb⟩
          have Hdig := hide hdig
          clear hr1 hr2 hbw hb3 hJ1 hJ2 hJ3 hJ4 hpb hdig
          go_wp2_with fail
          go_loopw [14] (fun iv wr' => ∃ j : Nat, j ≤ k ∧ iv = .int .i64 j ∧ Inv w wr' g G k Z ∧ wr'.cell? ⟨pb, 0, none⟩ = some (.int .i64 off)) (fun iv _ => k - (intOf iv).toNat)
          case atStart => exact ⟨0, by omega, rfl, unhide Hinv0⟩
          case round =>
            obtain ⟨j, hj, rfl, hinv, hpb⟩ := hrel
            by_cases hlt2 : j < k
            · have hc1 := hinv.1.cell j hlt2
              have hc2 := hinv.2.1.cell j hlt2
              have hne : (0 : Int) ≤ (j : Int) := by omega
              have hlt3 : (j : Int) < (k : Int) := by omega
              have Hinv := hide hinv
              clear hinv
              generalize hzj : Z j = zj at hc1 hc2
              clear hzj
              go_wp2_with fail
              go_quiet (fail)
              go_wp2_with fail
              exact ⟨⟨j + 1, by omega, by go_num, (unhide Hinv).drewN _, hpb⟩, by simp [intOf]; omega⟩
            · obtain rfl : j = k := by omega
              have fin : ∀ m, Below w.heap.size w (wr.drewN m) := fun m => by
                have hb := hinv.2.2
                rw [unhide Hgg] at hb
                exact ⟨hb.os, hb.tape, hb.output, hb.size, hb.block⟩
              have hco := hinv.1.cell off hlo
              have hdig : ¬ (48 ≤ Z off ∧ Z off ≤ 57) := unhide Hdig
              clear hinv
              generalize hzo : Z off = zo at hco hdig
              clear hzo
              have hbq : ((off : Int) == (j : Int)) = false := by simp; omega
              go_wp2_with fail
              all_goals (go_ret; exact ⟨rfl, fin 0⟩)

end Go.Proofs.YbulkbsreFmt
