/-
  Seat b3451a: the shelf's contracts on slices.Sort, Sorted and Compact laid at this dump, in plain words; and what 'newSet' leans on: 'SortedSaid', 'CompactSaid'.
-/
import Derived.Test.YbulkbslgNewSet
import Derived.Shelf.SortM.Plain
import Derived.Shelf.SortM.SortNone
import Derived.Shelf.Slices.CompactS
namespace Go.Proofs.Ybulkbslg
open Go.RowKit Go.Maps Go.Sort Go.Shelf

def Yba.sort13_ren : Go.Shelf.Ren := ⟨fun | 6 => 13 | 8 => 17 | 9 => 16 | 19 => 27 | 20 => 28 | 21 => 18 | 22 => 19 | 23 => 20 | 24 => 21 | 25 => 22 | 26 => 23 | 27 => 24 | 28 => 25 | 29 => 26 | 36 => 29 | 31 => 30 | 32 => 31 | 37 => 32 | 38 => 33 | 39 => 34 | 41 => 35 | n => n, fun | 27 => 23 | 29 => 9 | 3 => 3 | 32 => 44 | 26 => 23 | 0 => 0 | 44 => 55 | 46 => 57 | 4 => 4 | 36 => 47 | 35 => 46 | 41 => 52 | 5 => 5 | 9 => 9 | 53 => 58 | 57 => 62 | 63 => 64 | 64 => 65 | n => n, fun | n => n⟩
theorem Yba.sort13 : Go.Proofs.SlLaysM.n6 Yba.prog Yba.sort13_ren := {
  mixed := by kernel_rfl
  f6 := ⟨Yba.f13.name, by decide, Yba.func13.trans (congrArg some (by kernel_rfl))⟩
  f8 := Yba.func17.trans (congrArg some (by kernel_rfl))
  f9 := ⟨Yba.f16.name, by decide, Yba.func16.trans (congrArg some (by kernel_rfl))⟩
  f19 := Yba.func27.trans (congrArg some (by kernel_rfl))
  f20 := Yba.func28.trans (congrArg some (by kernel_rfl))
  f21 := ⟨Yba.f18.name, by decide, Yba.func18.trans (congrArg some (by kernel_rfl))⟩
  f22 := ⟨Yba.f19.name, by decide, Yba.func19.trans (congrArg some (by kernel_rfl))⟩
  f23 := ⟨Yba.f20.name, by decide, Yba.func20.trans (congrArg some (by kernel_rfl))⟩
  f24 := ⟨Yba.f21.name, by decide, Yba.func21.trans (congrArg some (by kernel_rfl))⟩
  f25 := ⟨Yba.f22.name, by decide, Yba.func22.trans (congrArg some (by kernel_rfl))⟩
  f26 := ⟨Yba.f23.name, by decide, Yba.func23.trans (congrArg some (by kernel_rfl))⟩
  f27 := ⟨Yba.f24.name, by decide, Yba.func24.trans (congrArg some (by kernel_rfl))⟩
  f28 := ⟨Yba.f25.name, by decide, Yba.func25.trans (congrArg some (by kernel_rfl))⟩
  f29 := ⟨Yba.f26.name, by decide, Yba.func26.trans (congrArg some (by kernel_rfl))⟩
  f31 := Yba.func30.trans (congrArg some (by kernel_rfl))
  f32 := Yba.func31.trans (congrArg some (by kernel_rfl))
  f36 := ⟨Yba.f29.name, by decide, Yba.func29.trans (congrArg some (by kernel_rfl))⟩
  f37 := ⟨Yba.f32.name, by decide, Yba.func32.trans (congrArg some (by kernel_rfl))⟩
  f38 := ⟨Yba.f33.name, by decide, Yba.func33.trans (congrArg some (by kernel_rfl))⟩
  f39 := ⟨Yba.f34.name, by decide, Yba.func34.trans (congrArg some (by kernel_rfl))⟩
  f41 := ⟨Yba.f35.name, by decide, Yba.func35.trans (congrArg some (by kernel_rfl))⟩
  t0 := Yba.underlying0
  a0 := Yba.isAgg0
  z0 := Yba.sizeOf0
  v0 := Yba.zeroValue0
  t3 := Yba.underlying3
  a3 := Yba.isAgg3
  z3 := Yba.sizeOf3
  v3 := Yba.zeroValue3
  t4 := Yba.underlying4
  a4 := Yba.isAgg4
  z4 := Yba.sizeOf4
  v4 := Yba.zeroValue4
  t5 := Yba.underlying5
  a5 := Yba.isAgg5
  z5 := Yba.sizeOf5
  v5 := Yba.zeroValue5
  t9 := Yba.underlying9
  a9 := Yba.isAgg9
  z9 := Yba.sizeOf9
  v9 := Yba.zeroValue9
  t26 := Yba.underlying23
  a26 := Yba.isAgg23
  z26 := Yba.sizeOf23
  v26 := Yba.zeroValue23
  t27 := Yba.underlying23
  a27 := Yba.isAgg23
  z27 := Yba.sizeOf23
  v27 := Yba.zeroValue23
  t29 := Yba.underlying9
  a29 := Yba.isAgg9
  z29 := Yba.sizeOf9
  v29 := Yba.zeroValue9
  t32 := Yba.underlying44
  a32 := Yba.isAgg44
  z32 := Yba.sizeOf44
  v32 := Yba.zeroValue44
  t35 := Yba.underlying46
  a35 := Yba.isAgg46
  z35 := Yba.sizeOf46
  v35 := Yba.zeroValue46
  t36 := Yba.underlying47
  a36 := Yba.isAgg47
  z36 := Yba.sizeOf47
  v36 := Yba.zeroValue47
  t41 := Yba.underlying52
  a41 := Yba.isAgg52
  z41 := Yba.sizeOf52
  v41 := Yba.zeroValue52
  t44 := Yba.underlying55
  a44 := Yba.isAgg55
  z44 := Yba.sizeOf55
  v44 := Yba.zeroValue55
  t46 := Yba.underlying57
  a46 := Yba.isAgg57
  z46 := Yba.sizeOf57
  v46 := Yba.zeroValue57
  t53 := Yba.underlying58
  a53 := Yba.isAgg58
  z53 := Yba.sizeOf58
  v53 := Yba.zeroValue58
  t57 := Yba.underlying62
  a57 := Yba.isAgg62
  z57 := Yba.sizeOf62
  v57 := Yba.zeroValue62
  t63 := Yba.underlying64
  a63 := Yba.isAgg64
  z63 := Yba.sizeOf64
  v63 := Yba.zeroValue64
  t64 := Yba.underlying65
  a64 := Yba.isAgg65
  z64 := Yba.sizeOf65
  v64 := Yba.zeroValue65 }
def Yba.compact8_ren : Go.Shelf.Ren := ⟨fun | 194 => 8 | n => n, fun | 31 => 23 | 9 => 9 | 3 => 3 | 4 => 4 | 0 => 0 | n => n, fun | n => n⟩
theorem Yba.compact8 : Go.Proofs.Lays.n194 Yba.prog Yba.compact8_ren := {
  mixed := by kernel_rfl
  f194 := Yba.func8.trans (congrArg some (by kernel_rfl))
  t0 := Yba.underlying0
  a0 := Yba.isAgg0
  z0 := Yba.sizeOf0
  v0 := Yba.zeroValue0
  t3 := Yba.underlying3
  a3 := Yba.isAgg3
  z3 := Yba.sizeOf3
  v3 := Yba.zeroValue3
  t4 := Yba.underlying4
  a4 := Yba.isAgg4
  z4 := Yba.sizeOf4
  v4 := Yba.zeroValue4
  t9 := Yba.underlying9
  a9 := Yba.isAgg9
  z9 := Yba.sizeOf9
  v9 := Yba.zeroValue9
  t31 := Yba.underlying23
  a31 := Yba.isAgg23
  z31 := Yba.sizeOf23
  v31 := Yba.zeroValue23 }

theorem encStr_of (s : ByteArray) : encStr s.data.toList = .string s := by simp [encStr]
theorem map_encStr (l : List ByteArray) : (l.map fun s => s.data.toList).map encStr = l.map Value.string := by
  rw [List.map_map]
  exact List.map_congr_left fun s _ => encStr_of s

/-- slices.Sort at a slice that the call owns: the same slice, its strings sorted. -/
theorem sort_call (base : Nat) (v : Value) (ss : List (List UInt8)) (w : World) (hrow : w.ownsRow base 9 1 v ss.length (ss.map encStr)) (hle : ss.length ≤ 4096) :
    Calls Yba.prog 13 #[v] w fun e w' => e = .returned (.tuple #[]) ∧ w'.ownsRow base 9 1 v ss.length ((ss.mergeSort fun x y => decide (x ≤ y)).map encStr) ∧ Below base w w' := by
  rcases hrow.2 with ⟨rfl, hz⟩ | ⟨gb, cap, cur, rfl, hbase, hgb, r1, r2, r3, r4⟩
  · obtain rfl : ss = [] := List.eq_nil_of_length_eq_zero hz
    refine (show Calls Yba.prog 13 #[.slice none 0 0] w _ from AnyM.slices_Sort_string_none Yba.sort13 none 0 w).mono ?_
    rintro e w' ⟨rfl, rfl⟩
    exact ⟨rfl, by simpa using hrow, Below.refl _ _⟩
  · have hgl : gb < w.heap.size := (Array.getElem?_eq_some_iff.1 hgb).1
    refine (show Calls Yba.prog 13 #[.slice (some ⟨gb, 0, none⟩) ss.length cap] w _ from AnyM.slices_Sort_string Yba.sort13 gb 0 cap ss w (holds_of_block hgb (by simpa using r4)) hgl (by omega)).mono ?_
    rintro e w' ⟨rfl, q, os, rfl⟩
    exact ⟨rfl, ownsRow_sorted (by simp) hbase hgb r1 r2 r3, (Below.refl base w).grown (grownBy_sorted _) (by omega) (fun k e => by cases e; exact hbase)⟩

set_option maxRecDepth 100000 in
set_option maxHeartbeats 1000000 in
/-- slices.Sorted: Collect, then Sort. -/
theorem sorted_said : SortedSaid := fun b off len cap S w hlen hb hc => by
  obtain ⟨W, hW⟩ : ∃ W, W = w.alloc (.cells #[.slice (some ⟨b, off, none⟩) len cap] 23) := ⟨_, rfl⟩
  have hz : W.heap.size = w.heap.size + 1 := by rw [hW]; simp
  have hbe : Below w.heap.size w W := by rw [hW]; exact (Below.refl _ w).alloc (Nat.le_refl _) _
  have hcs : W.cell? ⟨w.heap.size, 0, none⟩ = some (.slice (some ⟨b, off, none⟩) len cap) := by rw [hW]; simp
  have cC := (callsIn_wide (n := 4)).1 (collect_in Fence.wide 4 trivial trivial trivial rfl (by omega) w.heap.size b off len cap S hlen W (by omega) (by omega) hcs (fun j hj => (hbe.cell (p := ⟨b, off + j, none⟩) hb).trans (hc j hj)))
  have CC := hide cC
  have Hz := hide hz
  rw [← hW]
  clear cC hcs hc hW hbe hz
  go_enter Yba.func9, Yba.ntmps9
  go_wp2_with fail
  refine (unhide CC).mono ?_
  rintro e w1 ⟨v, rfl, hrow, hb1⟩
  have hrow2 : w1.ownsRow W.heap.size 9 1 v ((upto S len).map fun s => s.data.toList).length (((upto S len).map fun s => s.data.toList).map encStr) := by
    rw [map_encStr, List.length_map, upto_length]; exact hrow
  have CS := hide (sort_call W.heap.size v ((upto S len).map fun s => s.data.toList) w1 hrow2 (by rw [List.length_map, upto_length]; exact hlen))
  clear hrow hrow2 CC
  go_wp2_with fail
  refine (unhide CS).mono ?_
  rintro e w2 ⟨rfl, hrow, hb2⟩
  clear CS
  go_wp2_with fail
  go_ret
  rw [← unhide Hz]
  refine ⟨v, ((upto S len).map fun s => s.data.toList).mergeSort (fun x y => decide (x ≤ y)), rfl, ?_, ?_, hb1.trans hb2⟩
  · rw [List.length_mergeSort]; exact hrow
  · rw [List.length_mergeSort, List.length_map, upto_length]; exact hlen

theorem compact_said : CompactSaid := fun base v ss w hrow hle => by
  rcases hrow.2 with ⟨rfl, hz⟩ | ⟨gb, cap, cur, rfl, hbase, hgb, r1, r2, r3, r4⟩
  · refine (show Calls Yba.prog 8 #[.slice none 0 0] w _ from Any.slices_Compact_string_empty Yba.compact8 none 0 w).mono ?_
    rintro e w' ⟨rfl, rfl⟩
    exact ⟨none, 0, 0, rfl, Below.refl _ _⟩
  · refine (show Calls Yba.prog 8 #[.slice (some ⟨gb, 0, none⟩) ss.length cap] w _ from Any.slices_Compact_string Yba.compact8 gb 0 cap ss w (holds_of_block hgb (by simpa using r4)) (by omega) r1).mono ?_
    rintro e w' ⟨rfl, q, rfl⟩
    refine ⟨_, _, _, rfl, ?_⟩
    have hg : w.grownBy (grow (putRow encStr (Sort.ahead w q) gb 0 (Lib.compact ss ++ List.replicate (ss.length - (Lib.compact ss).length) []).toArray) #[]) (some gb) := grownBy_sorted _
    rw [grow_empty] at hg
    have hgl : gb < w.heap.size := (Array.getElem?_eq_some_iff.1 hgb).1
    exact (Below.refl base w).grown hg (by omega) (fun k e => by cases e; exact hbase)

end Go.Proofs.Ybulkbslg
