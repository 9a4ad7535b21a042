/-
  Seat b3455aF: the small functions: zzs3455csends (9), zzs3455cmsg (10).
-/
import Derived.Test.YbulkbsnkFmtRows
import Derived.WalkKit
import Derived.WalkSpells
import Derived.WalkLawsBesides
import Derived.Deep.QuietTactic
import Derived.BigQuiet
namespace Go.Proofs.YbulkbsnkFmt
open Go.RowKit
set_option linter.unusedVariables false

theorem hide {p : Prop} (h : p) : Hid p := h
theorem unhide {p : Prop} (h : Hid p) : p := h

theorem info5 : (Ybaf.prog.info? 5).map (fun i => (i.zero, i.size, i.bytes)) = some (some (.int .u8 0), 1, 1) := by kernel_rfl

/-- A slice of bytes that came in. -/
def ArgB (w : World) (a : Option Addr) (len : Nat) (P : Nat → Int) : Prop :=
  0 < len → ∃ b o, a = some ⟨b, o, none⟩ ∧ ∀ j, j < len → w.cell? ⟨b, o + j, none⟩ = some (.int .u8 (P j)) ∧ 0 ≤ P j ∧ P j ≤ 255

def at_ (len : Nat) (P : Nat → Int) (j k : Nat) : Int := P ((j * 7 + k * 3) % len)
def sendsB (len : Nat) (P : Nat → Int) (j k : Nat) : Bool := if len = 0 then false else at_ len P j k % 3 != 0

set_option maxRecDepth 100000 in
set_option maxHeartbeats 400000 in
theorem sends_walk (a : Option Addr) (len cap : Nat) (P : Nat → Int) (j k : Nat) (w : World) (hl : len ≤ 1024) (hj : j ≤ 10) (hk : k ≤ 1000) (hA : ArgB w a len P) :
    Calls Ybaf.prog 9 #[.slice a len cap, .int .i64 j, .int .i64 k] w fun e w' => e = .returned (.bool (sendsB len P j k)) ∧ w' = w := by
  by_cases h0 : len = 0
  · subst h0
    clear hA
    have hv : Hid (sendsB 0 P j k = false) := hide rfl
    go_enter Ybaf.func9, Ybaf.ntmps9
    go_wp2_with fail
    go_ret
    exact ⟨by rw [unhide hv]; rfl, rfl⟩
  · obtain ⟨b, o, rfl, hc⟩ := hA (by omega)
    have hlt : (j * 7 + k * 3) % len < len := Nat.mod_lt _ (by omega)
    obtain ⟨hc1, hp0, hp1⟩ := hc _ hlt
    obtain ⟨q, hq⟩ : ∃ q, q = (j * 7 + k * 3) % len := ⟨_, rfl⟩
    have hqi : ((j : Int) * 7 + (k : Int) * 3) % (len : Int) = (q : Int) := by rw [hq]; push_cast; rfl
    have hv : Hid (sendsB len P j k = (P q % 3 != 0)) := hide (by rw [sendsB, if_neg h0, at_, hq])
    rw [← hq] at hlt hc1 hp0 hp1
    have hz : ¬ (len : Int) = 0 := by omega
    clear hc hq
    generalize hpq : P q = z at hc1 hp0 hp1 hv
    clear hpq
    go_enter Ybaf.func9, Ybaf.ntmps9
    go_wp2_with fail
    go_ret
    exact ⟨by rw [unhide hv]; rfl, rfl⟩

/-- How long the message is; none: null. -/
def msgO (len : Nat) (P : Nat → Int) (j k r : Nat) : Option Nat :=
  if sendsB len P j k = true then (if (at_ len P j k + r) % 4 = 0 then none else some (((at_ len P j k + r) % 4).toNat - 1)) else none
def mcells (k r L : Nat) : Array Value := ((List.range L).map fun x => Value.int .u8 (((k + r + x) % 2 : Nat) : Int)).toArray

/-- The message that j sends r in round k lies there. -/
def IsMsg (w : World) (v : Value) (o : Option Nat) (k r : Nat) : Prop :=
  match o with
  | none => v = .slice none 0 0
  | some L => ∃ b, v = .slice (some ⟨b, 0, none⟩) L L ∧ w.heap[b]? = some (.cells (mcells k r L) 5 (0, 0))

/-- Block g holds n bytes, the first i of them the message's. -/
def Row (w : World) (g n i k r : Nat) : Prop := ∃ C : Array Value, w.heap[g]? = some (.cells C 5 (0, 0)) ∧ C.size = n ∧ (∀ j, j < n → ∃ z, C[j]? = some (.int .u8 z)) ∧ ∀ j, j < i → C[j]? = some (.int .u8 (((k + r + j) % 2 : Nat) : Int))
theorem Row.has {w : World} {g n i k r : Nat} (h : Row w g n i k r) (j : Nat) (hj : j < n) : (∃ z, w.cell? ⟨g, j, none⟩ = some (.int .u8 z)) ∧ w.frozen? ⟨g, j, none⟩ = false := by
  obtain ⟨C, hC, hs, hz, _⟩ := h
  obtain ⟨z, hz⟩ := hz j hj
  exact ⟨⟨z, by simp only [World.cell?, hC]; exact hz⟩, by simp [World.frozen?, hC]⟩
theorem Row.set {w : World} {g n i k r : Nat} (h : Row w g n i k r) (hk : i < n) : Row (w.setCell ⟨g, i, none⟩ (.int .u8 (((k + r + i) % 2 : Nat) : Int))) g n (i + 1) k r := by
  obtain ⟨C, hC, hs, hz, hd⟩ := h
  refine ⟨C.setIfInBounds i (.int .u8 (((k + r + i) % 2 : Nat) : Int)), heap_setCell_same w g i C 5 _ hC, by simpa using hs, fun j hj => ?_, fun j hj => ?_⟩
  · by_cases e : j = i
    · subst e; exact ⟨(((k + r + j) % 2 : Nat) : Int), by rw [Array.getElem?_setIfInBounds_self_of_lt (by omega)]⟩
    · obtain ⟨z, hz⟩ := hz j hj
      exact ⟨z, by rw [Array.getElem?_setIfInBounds_ne (by omega)]; exact hz⟩
  · by_cases e : j = i
    · subst e; simp [hs, hk]
    · rw [Array.getElem?_setIfInBounds_ne (by omega)]
      exact hd j (by omega)
theorem Row.full {w : World} {g n k r : Nat} (h : Row w g n n k r) : w.heap[g]? = some (.cells (mcells k r n) 5 (0, 0)) := by
  obtain ⟨C, hC, hs, _, hd⟩ := h
  rw [hC]
  congr 2
  apply Array.ext
  · simp [mcells, hs]
  · intro j h1 h2
    have := hd j (by omega)
    rw [Array.getElem?_eq_getElem h1] at this
    simp only [Option.some.injEq] at this
    rw [this]
    simp [mcells]
theorem owned_row {w : World} {base g n k r : Nat} (h : w.ownsRow base 5 1 (.slice (some ⟨g, 0, none⟩) n n) n (madeCells (Value.int .u8 0).cells (n * 1)).toList) : Row w g n 0 k r := by
  rcases h.2 with ⟨e, -⟩ | ⟨g', cap, cur, e, hb, hh, -, -, hc, ht⟩
  · cases e
  · cases e
    refine ⟨cur, hh, by simpa using hc, fun j hj => ⟨0, ?_⟩, fun j hj => absurd hj (by omega)⟩
    have h2 : cur.toList = (madeCells (Value.int .u8 0).cells (n * 1)).toList := by
      rw [← ht, List.take_of_length_le (by simp [hc])]
    have h3 : cur[j]? = cur.toList[j]? := by simp
    rw [h3, h2]
    simp [madeCells, Value.cells]
    exact ⟨j, by simp [hj], by rw [Nat.mod_one]; rfl⟩

set_option maxRecDepth 100000 in
set_option maxHeartbeats 1000000 in
theorem msg_walk (a : Option Addr) (len cap : Nat) (P : Nat → Int) (j k r : Nat) (w : World) (hl : len ≤ 1024) (hj : j ≤ 10) (hk : k ≤ 1000) (hr : r ≤ 10) (hA : ArgB w a len P) :
    Calls Ybaf.prog 10 #[.slice a len cap, .int .i64 j, .int .i64 k, .int .i64 r] w fun e w' => ∃ v, e = .returned v ∧ IsMsg w' v (msgO len P j k r) k r ∧ Below w.heap.size w w' ∧ ∀ b L, v = .slice (some b) L L → w.heap.size ≤ b.block := by
  have Hs := hide (sends_walk a len cap P j k w hl hj hk hA)
  obtain ⟨i0, hi, hz0, hz1, hz2⟩ := info_parts info5
  cases hsd : sendsB len P j k with
  | false =>
    have ho : Hid (msgO len P j k r = none) := hide (by rw [msgO, hsd]; rfl)
    rw [hsd] at Hs
    clear hsd hA
    go_enter Ybaf.func10, Ybaf.ntmps10
    go_wp2_with (go_at_call 9; refine (unhide Hs).mono ?_; rintro e w ⟨rfl, rfl⟩)
    go_ret
    exact ⟨_, rfl, by rw [unhide ho]; rfl, Below.refl _ w, fun b L e => by cases e⟩
  | true =>
    have h0 : ¬ len = 0 := fun e => by rw [sendsB, if_pos e] at hsd; cases hsd
    obtain ⟨b, o, rfl, hc⟩ := hA (by omega)
    have hlt : (j * 7 + k * 3) % len < len := Nat.mod_lt _ (by omega)
    obtain ⟨hc1, hp0, hp1⟩ := hc _ hlt
    obtain ⟨q, hq⟩ : ∃ q, q = (j * 7 + k * 3) % len := ⟨_, rfl⟩
    have hqi : ((j : Int) * 7 + (k : Int) * 3) % (len : Int) = (q : Int) := by rw [hq]; push_cast; rfl
    have hat : at_ len P j k = P q := by rw [at_, hq]
    have ho : msgO len P j k r = if (P q + r) % 4 = 0 then none else some (((P q + r) % 4).toNat - 1) := by rw [msgO, hsd, if_pos rfl, hat]
    rw [← hq] at hlt hc1 hp0 hp1
    have hz : ¬ (len : Int) = 0 := by omega
    rw [hsd] at Hs
    clear hc hq hsd hA hat
    generalize hpq : P q = z at hc1 hp0 hp1 ho
    clear hpq
    obtain ⟨v, hv⟩ : ∃ v : Nat, (z + r) % 4 = (v : Int) := ⟨((z + r) % 4).toNat, by omega⟩
    have hv4 : v < 4 := by omega
    rw [hv] at ho
    by_cases hv0 : v = 0
    · subst hv0
      have ho' : Hid (msgO len P j k r = none) := hide (by rw [ho]; rfl)
      clear ho
      go_enter Ybaf.func10, Ybaf.ntmps10
      go_wp2_with (go_at_call 9; refine (unhide Hs).mono ?_; rintro e w ⟨rfl, rfl⟩)
      go_ret
      exact ⟨_, rfl, by rw [unhide ho']; rfl, Below.refl _ w, fun b L e => by cases e⟩
    · have ho' : Hid (msgO len P j k r = some (v - 1)) := hide (by rw [ho, if_neg (by omega)]; simp)
      clear ho
      obtain ⟨L, hL⟩ : ∃ L : Nat, v = L + 1 := ⟨v - 1, by omega⟩
      subst hL
      go_enter Ybaf.func10, Ybaf.ntmps10
      go_wp2_with (first | (go_at_call 9; refine (unhide Hs).mono ?_; rintro e w ⟨rfl, rfl⟩) | (at_make; refine wpList_make_full _ rfl _ _ 47 rfl w.heap.size 5 i0 _ 1 Ybaf.underlying47 hi hz0 hz1 _ _ _ _ L rfl rfl (by omega) (by omega) (by rw [hz2]; omega) (by unfold maxLen; omega) (Nat.le_refl _) ?_; intro wm hown hgm; have hrow := owned_row (k := k) (r := r) hown; have hbm : Below w.heap.size w wm := (Below.refl _ w).grown hgm (Nat.le_refl _) (by simp); clear hown hgm))
      obtain ⟨g, hgg⟩ : ∃ g, g = w.heap.size := ⟨_, rfl⟩
      have Hgg := hide hgg
      rw [← hgg] at hrow hbm ⊢
      have Hrow := hide hrow
      have Hbm := hide hbm
      clear hgg hrow hbm
      go_loopw [12] (fun iv wr => ∃ i : Nat, i ≤ L ∧ iv = .int .i64 i ∧ Row wr g L i k r ∧ Below g w wr) (fun iv _ => L - (intOf iv).toNat)
      case atStart => exact ⟨0, by omega, rfl, unhide Hrow, unhide Hbm⟩
      case round =>
        obtain ⟨i, hi', rfl, hrow, hbe⟩ := hrel
        by_cases hlt2 : i < L
        · obtain ⟨⟨zz, hzz⟩, hfz⟩ := hrow.has i hlt2
          have hset := hide (hrow.set hlt2)
          have Hbe := hide hbe
          have hw8 : ((k : Int) + (r : Int) + (i : Int)) % 2 = (((k + r + i) % 2 : Nat) : Int) := by push_cast; rfl
          have hw9 : (k + r + i) % 2 < 2 := Nat.mod_lt _ (by omega)
          generalize (k + r + i) % 2 = y at hset hw8 hw9
          clear hrow hbe
          go_wp2_with fail
          exact ⟨⟨i + 1, by omega, by go_num, unhide hset, (unhide Hbe).setCell (Nat.le_refl _) _⟩, by simp [intOf]; omega⟩
        · obtain rfl : i = L := by omega
          go_wp2_with fail
          go_ret
          refine ⟨_, rfl, by rw [unhide ho']; exact ⟨g, rfl, hrow.full⟩, ?_, fun b L e => ?_⟩
          · rw [← unhide Hgg]; exact hbe
          · cases e
            rw [← unhide Hgg]
            exact Nat.le_refl _

end Go.Proofs.YbulkbsnkFmt
