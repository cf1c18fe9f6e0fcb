/-
  The line of waiters in memory: N is the row of pointers, N + 1 + 2 j the j-th channel, N + 2 + 2 j the j-th waiter.
-/
import Derived.Test.YbulkaboqWake
import Derived.Deep.OwnRows
namespace Go.Proofs.Ybulkaboq
open Go.Conc Go.RowKit

def cbuf (b : Bool) : Array Value := if b then #[.agg #[]] else #[]

structure WS (w : World) (cnt t : Nat) (pv nv : Nat → Value) (bf : Nat → Bool) (wr : World) : Prop where
  row : ∃ R : Array Value, wr.heap[w.heap.size]? = some (.cells R 25) ∧ R.size = cnt ∧ ∀ j, j < t → R[j]? = some (ptr (w.heap.size + 2 + 2 * j))
  chan : ∀ j, j < t → ∃ s r, wr.heap[w.heap.size + 1 + 2 * j]? = some (.chan 1 (cbuf (bf j)) false s r false)
  wtr : ∀ j, j < t → wr.heap[w.heap.size + 2 + 2 * j]? = some (.cells (wBlk (w.heap.size + 1 + 2 * j) (pv j) (nv j)) 28)
  below : Below w.heap.size w wr
  size : w.heap.size + 1 + 2 * t ≤ wr.heap.size

section
variable {w wr w' : World} {cnt t : Nat} {pv nv : Nat → Value} {bf : Nat → Bool}
theorem WS.congr (h : WS w cnt t pv nv bf wr) {pv' nv' : Nat → Value} {bf' : Nat → Bool} (h1 : ∀ j, j < t → pv j = pv' j) (h2 : ∀ j, j < t → nv j = nv' j) (h3 : ∀ j, j < t → bf j = bf' j) : WS w cnt t pv' nv' bf' wr :=
  ⟨h.row, fun j hj => by rw [← h3 j hj]; exact h.chan j hj, fun j hj => by rw [← h1 j hj, ← h2 j hj]; exact h.wtr j hj, h.below, h.size⟩
theorem WS.drew (h : WS w cnt t pv nv bf wr) : WS w cnt t pv nv bf wr.drew := ⟨h.row, h.chan, h.wtr, h.below.drew, h.size⟩
theorem WS.drewN (h : WS w cnt t pv nv bf wr) (n : Nat) : WS w cnt t pv nv bf (wr.drewN n) := ⟨h.row, h.chan, h.wtr, h.below.trans ⟨rfl, rfl, rfl, Nat.le_refl _, fun _ _ => rfl⟩, h.size⟩
theorem WS.alloc (h : WS w cnt t pv nv bf wr) (o : Obj) : WS w cnt t pv nv bf (wr.alloc o) := by
  have hs := h.size
  refine ⟨?_, fun j hj => ?_, fun j hj => ?_, h.below.alloc (by omega) _, by simp; omega⟩
  · obtain ⟨R, e, r⟩ := h.row; exact ⟨R, by rw [Below.heap_alloc _ _ _ (by omega)]; exact e, r⟩
  · obtain ⟨s, r, e⟩ := h.chan j hj; exact ⟨s, r, by rw [Below.heap_alloc _ _ _ (by omega)]; exact e⟩
  · rw [Below.heap_alloc _ _ _ (by omega)]; exact h.wtr j hj
/-- An element of the row. -/
theorem WS.at_ (h : WS w cnt t pv nv bf wr) {j : Nat} (hj : j < t) : wr.cell? ⟨w.heap.size, j, none⟩ = some (ptr (w.heap.size + 2 + 2 * j)) := by
  obtain ⟨R, e, _, r⟩ := h.row
  exact cell_of e (r j hj)
theorem WS.c0 (h : WS w cnt t pv nv bf wr) {j : Nat} (hj : j < t) : wr.cell? ⟨w.heap.size + 2 + 2 * j, 0, none⟩ = some (.chan (some (w.heap.size + 1 + 2 * j))) := cell_of (h.wtr j hj) rfl
theorem WS.c1 (h : WS w cnt t pv nv bf wr) {j : Nat} (hj : j < t) : wr.cell? ⟨w.heap.size + 2 + 2 * j, 1, none⟩ = some (pv j) := cell_of (h.wtr j hj) rfl
theorem WS.c2 (h : WS w cnt t pv nv bf wr) {j : Nat} (hj : j < t) : wr.cell? ⟨w.heap.size + 2 + 2 * j, 2, none⟩ = some (nv j) := cell_of (h.wtr j hj) rfl
theorem WS.fz (h : WS w cnt t pv nv bf wr) {j : Nat} (hj : j < t) (o : Nat) : wr.frozen? ⟨w.heap.size + 2 + 2 * j, o, none⟩ = false := frozen_of (h.wtr j hj)
/-- A waiter's link is stored. -/
theorem WS.setP (h : WS w cnt t pv nv bf wr) {i : Nat} (hi : i < t) (v : Value) : WS w cnt t (fun j => if j = i then v else pv j) nv bf (wr.setCell ⟨w.heap.size + 2 + 2 * i, 1, none⟩ v) := by
  refine ⟨?_, fun j hj => ?_, fun j hj => ?_, h.below.setCell (by simp; omega) _, by simpa using h.size⟩
  · obtain ⟨R, e, r⟩ := h.row; exact ⟨R, heap_other _ e (by simp; omega), r⟩
  · obtain ⟨s, r, e⟩ := h.chan j hj; exact ⟨s, r, heap_other _ e (by simp; omega)⟩
  · by_cases e : j = i
    · subst e; rw [if_pos rfl]; exact heap_set _ (h.wtr j hj)
    · rw [if_neg e]; exact heap_other _ (h.wtr j hj) (by simp; omega)
theorem WS.setN (h : WS w cnt t pv nv bf wr) {i : Nat} (hi : i < t) (v : Value) : WS w cnt t pv (fun j => if j = i then v else nv j) bf (wr.setCell ⟨w.heap.size + 2 + 2 * i, 2, none⟩ v) := by
  refine ⟨?_, fun j hj => ?_, fun j hj => ?_, h.below.setCell (by simp; omega) _, by simpa using h.size⟩
  · obtain ⟨R, e, r⟩ := h.row; exact ⟨R, heap_other _ e (by simp; omega), r⟩
  · obtain ⟨s, r, e⟩ := h.chan j hj; exact ⟨s, r, heap_other _ e (by simp; omega)⟩
  · by_cases e : j = i
    · subst e; rw [if_pos rfl]; exact heap_set _ (h.wtr j hj)
    · rw [if_neg e]; exact heap_other _ (h.wtr j hj) (by simp; omega)
/-- One waiter more. -/
theorem WS.grow (h : WS w cnt t pv nv bf wr) (hs : wr.heap.size = w.heap.size + 1 + 2 * t) (ht : t < cnt) (hp : pv t = nilP) (hn : nv t = nilP) (hb : bf t = false) :
    WS w cnt (t + 1) pv nv bf (((wr.alloc (.chan 1 #[] false 0 0 false)).alloc (.cells #[.chan (some (w.heap.size + 1 + 2 * t)), .pointer none, .pointer none] 28)).setCell ⟨w.heap.size, t, none⟩ (ptr (w.heap.size + 2 + 2 * t))) := by
  refine ⟨?_, fun j hj => ?_, fun j hj => ?_, ((h.below.alloc (by omega) _).alloc (by simp; omega) _).setCell (by simp) _, by simp; omega⟩
  · obtain ⟨R, e, hR, r⟩ := h.row
    refine ⟨R.setIfInBounds t (ptr (w.heap.size + 2 + 2 * t)), heap_set _ ?_, by simpa using hR, fun j hj => ?_⟩
    · rw [Below.heap_alloc _ _ _ (by simp; omega), Below.heap_alloc _ _ _ (by omega)]; exact e
    · by_cases ej : j = t
      · subst ej; simp [hR, ht]
      · rw [Array.getElem?_setIfInBounds_ne (fun h => ej h.symm)]; exact r j (by omega)
  · by_cases ej : j = t
    · subst ej
      refine ⟨0, 0, heap_other _ ?_ (by simp; omega)⟩
      rw [hb, Below.heap_alloc _ _ _ (by simp; omega)]
      have := heap_alloc_new wr (.chan 1 #[] false 0 0 false)
      rw [hs] at this
      exact this
    · obtain ⟨s, r, e⟩ := h.chan j (by omega)
      exact ⟨s, r, heap_other _ (by rw [Below.heap_alloc _ _ _ (by simp; omega), Below.heap_alloc _ _ _ (by omega)]; exact e) (by simp; omega)⟩
  · by_cases ej : j = t
    · subst ej
      rw [hp, hn]
      refine heap_other _ ?_ (by simp; omega)
      have := heap_alloc_new (wr.alloc (.chan 1 #[] false 0 0 false)) (.cells #[.chan (some (w.heap.size + 1 + 2 * j)), .pointer none, .pointer none] 28)
      rw [World.size_alloc, hs] at this
      rw [show w.heap.size + 2 + 2 * j = w.heap.size + 1 + 2 * j + 1 by omega]
      exact this
    · exact heap_other _ (by rw [Below.heap_alloc _ _ _ (by simp; omega), Below.heap_alloc _ _ _ (by omega)]; exact h.wtr j (by omega)) (by simp; omega)
end
theorem WS.start (w : World) (cnt : Nat) (pv nv : Nat → Value) (bf : Nat → Bool) : WS w cnt 0 pv nv bf (w.alloc (.cells (madeCells #[.pointer none] cnt) 25)) :=
  ⟨⟨_, heap_alloc_new w _, size_madeCells _ _, fun j hj => by omega⟩, fun j hj => by omega, fun j hj => by omega, (Below.refl _ _).alloc (Nat.le_refl _) _, by simp⟩
end Go.Proofs.Ybulkaboq
