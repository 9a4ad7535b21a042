/-
  Seat b3453a: plain: the chunks behind n keeps from an empty run.
-/
import Derived.Test.YbulkbsmiState
namespace Go.Proofs.Ybulkbsmi
open Go.RowKit

/-- How many takers the first i chunks hold together. -/
def bef : Nat → Nat
  | 0 => 0
  | i + 1 => bef i + newCap (bef i)

theorem bef_mono : ∀ {i j : Nat}, i ≤ j → bef i ≤ bef j
  | i, 0, h => by
    have : i = 0 := by omega
    subst this; exact Nat.le_refl _
  | i, j + 1, h => by
    by_cases e : i = j + 1
    · subst e; exact Nat.le_refl _
    · have := bef_mono (show i ≤ j by omega)
      show bef i ≤ bef j + newCap (bef j)
      omega
theorem bef_ge : ∀ i, i ≤ bef i
  | 0 => Nat.le_refl _
  | i + 1 => by
    have := bef_ge i
    have h2 := newCap_ge (bef i)
    show i + 1 ≤ bef i + newCap (bef i)
    omega

/-- The chunks behind n keeps. -/
def Inv (N : Nat → ByteArray) (n : Nat) (chs : List Ch) : Prop :=
  (∀ i ch, chs[i]? = some ch → ch.cap = newCap (bef i) ∧ ch.len = min (newCap (bef i)) (n - bef i) ∧ bef i < n ∧ ∀ j, j < ch.len → ch.nm j = N (bef i + j)) ∧ n ≤ bef chs.length

theorem inv_start (N : Nat → ByteArray) : Inv N 0 [] := ⟨fun i ch h => by simp at h, Nat.zero_le _⟩

theorem inv_next {N : Nat → ByteArray} {n : Nat} {chs chs' : List Ch} (h : Inv N n chs) (hx : Next chs n (N n) chs') : Inv N (n + 1) chs' := by
  obtain ⟨hi, hb⟩ := h
  rcases hx with ⟨pre, ch, rfl, hlt, rfl⟩ | ⟨hfull, g, rfl⟩
  · have hl := hi pre.length ch (by simp)
    have hlen : (pre ++ [ch]).length = pre.length + 1 := by simp
    have hlen' : (pre ++ [ch.add (N n)]).length = pre.length + 1 := by simp
    have hbs : bef (pre.length + 1) = bef pre.length + newCap (bef pre.length) := rfl
    obtain ⟨h1, h2, h3, h4⟩ := hl
    refine ⟨fun i c hc => ?_, by rw [hlen', hbs]; omega⟩
    by_cases e : i < pre.length
    · have hc' : (pre ++ [ch])[i]? = some c := by
        rw [List.getElem?_append_left e] at hc ⊢; exact hc
      obtain ⟨k1, k2, k3, k4⟩ := hi i c hc'
      have hm := bef_mono (show i + 1 ≤ pre.length by omega)
      have hs : bef (i + 1) = bef i + newCap (bef i) := rfl
      exact ⟨k1, by omega, by omega, k4⟩
    · have e2 : i = pre.length := by
        have := (List.getElem?_eq_some_iff.1 hc).1
        simp at this; omega
      subst e2
      have hce : c = ch.add (N n) := by simpa using hc.symm
      subst hce
      refine ⟨h1, ?_, by omega, fun j hj => ?_⟩
      · show ch.len + 1 = _
        omega
      · show (if j = ch.len then N n else ch.nm j) = _
        have hj' : j < ch.len + 1 := hj
        by_cases ej : j = ch.len
        · rw [if_pos ej]; congr 1; omega
        · rw [if_neg ej]; exact h4 j (by omega)
  · have hnb : n = bef chs.length := by
      rcases hfull with rfl | ⟨pre, ch, rfl, hfl⟩
      · have : n ≤ 0 := hb
        show n = 0
        omega
      · obtain ⟨h1, h2, h3, h4⟩ := hi pre.length ch (by simp)
        have hlen : (pre ++ [ch]).length = pre.length + 1 := by simp
        have hbs : bef (pre.length + 1) = bef pre.length + newCap (bef pre.length) := rfl
        rw [hlen] at hb ⊢
        omega
    have hge := newCap_ge n
    refine ⟨fun i c hc => ?_, ?_⟩
    · by_cases e : i < chs.length
      · have hc' : chs[i]? = some c := by
          rw [List.getElem?_append_left e] at hc; exact hc
        obtain ⟨k1, k2, k3, k4⟩ := hi i c hc'
        have hm := bef_mono (show i + 1 ≤ chs.length by omega)
        have hs : bef (i + 1) = bef i + newCap (bef i) := rfl
        exact ⟨k1, by omega, by omega, k4⟩
      · have e2 : i = chs.length := by
          have := (List.getElem?_eq_some_iff.1 hc).1
          simp at this; omega
        subst e2
        have hce : c = ⟨g, 1, newCap n, fun _ => N n⟩ := by simpa using hc.symm
        subst hce
        rw [← hnb]
        refine ⟨rfl, ?_, by omega, fun j hj => ?_⟩
        · show 1 = _
          omega
        · have : j = 0 := by have : j < 1 := hj; omega
          subst this; rfl
    · have hlen : (chs ++ [(⟨g, 1, newCap n, fun _ => N n⟩ : Ch)]).length = chs.length + 1 := by simp
      have hs : bef (chs.length + 1) = bef chs.length + newCap (bef chs.length) := rfl
      rw [hlen, hs, ← hnb]
      omega

theorem inv_len {N : Nat → ByteArray} {n : Nat} {chs : List Ch} (h : Inv N n chs) : chs.length ≤ n := by
  by_cases e : chs.length = 0
  · omega
  · have hx : chs.length - 1 < chs.length := by omega
    obtain ⟨_, _, h3, _⟩ := h.1 (chs.length - 1) (chs[chs.length - 1]) (List.getElem?_eq_getElem hx)
    have := bef_ge (chs.length - 1)
    omega

theorem inv_cap {N : Nat → ByteArray} {n : Nat} {chs : List Ch} (h : Inv N n chs) : ∀ ch ∈ chs, ch.cap < 100000 := by
  intro ch hc
  obtain ⟨i, hi⟩ := List.mem_iff_getElem?.1 hc
  have := (h.1 i ch hi).1
  have := newCap_le (bef i)
  omega

end Go.Proofs.Ybulkbsmi
