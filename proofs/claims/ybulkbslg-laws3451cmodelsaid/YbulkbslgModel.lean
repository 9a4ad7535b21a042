/-
  Seat b3451a: the walks of zzs3451cbuild (function 5) and LawS3451CModel (function 3).
-/
import Derived.Test.YbulkbslgUnion
namespace Go.Proofs.Ybulkbslg
open Go.RowKit Go.Maps Go.WideMaps Go.Sort

set_option maxRecDepth 100000 in
set_option maxHeartbeats 400000 in
theorem build_nil (w : World) : Calls Yba.prog 5 #[.slice none 0 0] w fun e w' => e = .returned (.slice none 0 0) ∧ Below w.heap.size w w' := by
  have q22 : ∀ (w : World) (a : Option Addr) (n c : Nat), (binOp .eql 22 (.slice a n c) (.slice none 0 0)).run Yba.prog w = .ok (.bool a.isNone) w := fun w a n c => Lib.run_eql_slice_nil w _ _ a n c _ _ Yba.underlying22
  go_enter Yba.func5, Yba.ntmps5
  go_wp2_with fail
  go_ret
  exact ⟨rfl, (Below.refl _ _).alloc (Nat.le_refl _) _⟩

def tabS (n : Nat) : ByteArray := match n with
  | 0 => ⟨#[97]⟩
  | 1 => ⟨#[98]⟩
  | 2 => ⟨#[99]⟩
  | 3 => ⟨#[100, 100]⟩
  | _ => ⟨#[]⟩

theorem tab_cell (w : World) (n : Nat) (h : n < 5) : (w.alloc (.cells #[.string ⟨#[97]⟩, .string ⟨#[98]⟩, .string ⟨#[99]⟩, .string ⟨#[100, 100]⟩, .string ⟨#[]⟩] 33)).cell? ⟨w.heap.size, n, none⟩ = some (.string (tabS n)) := by
  match n, h with
  | 0, _ => simp [tabS]
  | 1, _ => simp [tabS]
  | 2, _ => simp [tabS]
  | 3, _ => simp [tabS]
  | 4, _ => simp [tabS]

theorem tab_size (n : Nat) : (tabS n).size ≤ maxLen := by
  unfold tabS; split <;> decide

set_option maxRecDepth 100000 in
set_option maxHeartbeats 400000 in
theorem build_some (ad : Addr) (len cap : Nat) (zs : Nat → Int) (w : World) (hl : len ≤ 1024) (hc : len = 0 ∨ ∃ b off, ad = ⟨b, off, none⟩ ∧ b < w.heap.size ∧ ∀ j, j < len → w.cell? ⟨b, off + j, none⟩ = some (.int .u8 (zs j)) ∧ 0 ≤ zs j ∧ zs j ≤ 255) :
    Calls Yba.prog 5 #[.slice (some ad) len cap] w fun e w' => ∃ S a' cap', e = .returned (.slice a' len cap') ∧ Strs w' a' len S ∧ Below w.heap.size w w' := by
  obtain ⟨i0, hi, hz0, hz1, hz2⟩ := info_parts info9
  have Hc := hide hc
  clear hc
  have q22 : ∀ (w : World) (a : Option Addr) (n c : Nat), (binOp .eql 22 (.slice a n c) (.slice none 0 0)).run Yba.prog w = .ok (.bool a.isNone) w := fun w a n c => Lib.run_eql_slice_nil w _ _ a n c _ _ Yba.underlying22
  go_enter Yba.func5, Yba.ntmps5
  go_wp2_with (at_make; refine wpList_make_own _ rfl _ _ 23 rfl (w.heap.size + 1) 9 i0 _ 1 Yba.underlying23 hi hz0 hz1 _ _ _ len rfl rfl (by omega) (by rw [hz2]; omega) (by unfold maxLen; omega) (by simp) ?_; intro wm hown hgm)
  have hBm := (Below.refl (w.heap.size + 1) (w.alloc (.cells #[.string ⟨#[97]⟩, .string ⟨#[98]⟩, .string ⟨#[99]⟩, .string ⟨#[100, 100]⟩, .string ⟨#[]⟩] 33))).grown hgm (by simp) (by simp)
  go_loopw [4, 15] (fun v i wr => ∃ k : Nat, k ≤ len ∧ i = .int .i64 k ∧ v = .slice (some ⟨w.heap.size + 1, 0, none⟩) k len ∧ wr.ownsRow (w.heap.size + 1) 9 1 (.slice (some ⟨w.heap.size + 1, 0, none⟩) k len) k (rowOf (fun j => tabS (zs j % 5).toNat) k) ∧ Below (w.heap.size + 1) (w.alloc (.cells #[.string ⟨#[97]⟩, .string ⟨#[98]⟩, .string ⟨#[99]⟩, .string ⟨#[100, 100]⟩, .string ⟨#[]⟩] 33)) wr) (fun _ i _ => len - (intOf i).toNat)
  case atStart => exact ⟨0, Nat.zero_le _, rfl, rfl, by rw [World.size_alloc] at hown; exact hown, hBm⟩
  case round =>
    clear hown hgm hBm
    obtain ⟨k, hk, rfl, rfl, hrow, hbe⟩ := hrel
    have hbw : Below w.heap.size w wr := ((Below.refl _ w).alloc (Nat.le_refl _) _).trans (hbe.mono (Nat.le_succ _))
    by_cases hlt : k < len
    · rcases (unhide Hc) with e | ⟨b, off, rfl, hb, hc⟩
      · omega
      · have hcx := (hbw.cell (p := ⟨b, off + k, none⟩) hb).trans (hc k hlt).1
        have hzl := (hc k hlt).2.1
        have hzh := (hc k hlt).2.2
        have hct : wr.cell? ⟨w.heap.size, (zs k % 5).toNat, none⟩ = some (.string (tabS (zs k % 5).toNat)) := (hbe.cell (p := ⟨w.heap.size, (zs k % 5).toNat, none⟩) (by simp)).trans (tab_cell w _ (by omega))
        clear hc
        go_wp2_with (at_builtin; refine wpList_append_fits _ rfl _ _ 23 rfl (w.heap.size + 1) 9 i0 1 Yba.underlying23 hi hz1 (w.heap.size + 1) k len _ rfl (hrow.alloc _) ⟨wr.heap.size, 0, none⟩ 1 1 [.string (tabS (zs k % 5).toNat)] rfl rfl (cell_one_new _ _ _) (by simp [Value.oneCell']) (by omega) ?_; intro w1 hown1 hg1)
        have hb1 := (hbe.alloc (by have := hbe.size; simpa using this) _).grown hg1 (by have := hbe.size; simp at this ⊢; omega) (fun k e => by cases e; exact Nat.le_refl _)
        rw [← rowOf_succ (fun j => tabS (zs j % 5).toNat)] at hown1
        clear hg1 hrow hbe hcx hct hbw
        go_roundw
        case rel => exact ⟨k + 1, by omega, by go_num, rfl, hown1, hb1⟩
        case measure => simp [intOf]; omega
    · obtain rfl : k = len := by omega
      go_wp2_with fail
      go_ret
      exact ⟨_, _, _, rfl, strs_of_row hrow (fun j _ => tab_size _), hbw⟩

/-- A slice of bytes that came in: nil, or not. -/
def ArgBytes (w : World) (a : Option Addr) (len cap : Nat) (zs : Nat → Int) : Prop :=
  (a = none ∧ len = 0 ∧ cap = 0) ∨ ∃ ad, a = some ad ∧ (len = 0 ∨ ∃ b off, ad = ⟨b, off, none⟩ ∧ b < w.heap.size ∧ ∀ j, j < len → w.cell? ⟨b, off + j, none⟩ = some (.int .u8 (zs j)) ∧ 0 ≤ zs j ∧ zs j ≤ 255)

theorem ArgBytes.below {w w' : World} {a : Option Addr} {len cap : Nat} {zs : Nat → Int} (h : ArgBytes w a len cap zs) (hb : Below w.heap.size w w') : ArgBytes w' a len cap zs := by
  rcases h with h | ⟨ad, rfl, h | ⟨b, off, rfl, hlt, hc⟩⟩
  · exact .inl h
  · exact .inr ⟨ad, rfl, .inl h⟩
  · exact .inr ⟨_, rfl, .inr ⟨b, off, rfl, Nat.lt_of_lt_of_le hlt hb.size, fun j hj => ⟨(hb.cell (p := ⟨b, off + j, none⟩) hlt).trans (hc j hj).1, (hc j hj).2⟩⟩⟩

theorem build_any (a : Option Addr) (len cap : Nat) (zs : Nat → Int) (w : World) (hl : len ≤ 1024) (h : ArgBytes w a len cap zs) :
    Calls Yba.prog 5 #[.slice a len cap] w fun e w' => ∃ S a' cap', e = .returned (.slice a' len cap') ∧ Strs w' a' len S ∧ Below w.heap.size w w' := by
  rcases h with ⟨rfl, rfl, rfl⟩ | ⟨ad, rfl, h⟩
  · refine (build_nil w).mono ?_
    rintro e w' ⟨rfl, hb⟩
    exact ⟨fun _ => ByteArray.empty, none, 0, rfl, .inl ⟨rfl, rfl⟩, hb⟩
  · exact build_some ad len cap zs w hl h

end Go.Proofs.Ybulkbslg
