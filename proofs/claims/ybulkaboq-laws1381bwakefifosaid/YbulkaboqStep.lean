/-
  The queue with m of cnt waiters woken; one Wake more.
-/
import Derived.Test.YbulkaboqState
namespace Go.Proofs.Ybulkaboq
open Go.Conc Go.RowKit

def pvm (N m j : Nat) : Value := if m < j then ptr (N + 2 + 2 * (j - 1)) else nilP
def nvm (N cnt m j : Nat) : Value := if m ≤ j ∧ j + 1 < cnt then ptr (N + 2 + 2 * (j + 1)) else nilP
def bfm (m j : Nat) : Bool := decide (j < m)
def hdm (N cnt m : Nat) : Value := if m < cnt then ptr (N + 2 + 2 * m) else nilP
def tlm (N cnt m : Nat) : Value := if m < cnt then ptr (N + 2 + 2 * (cnt - 1)) else nilP

structure QM (w : World) (cnt m : Nat) (pd : Int) (wr : World) : Prop where
  ws : WS w cnt cnt (pvm w.heap.size m) (nvm w.heap.size cnt m) (bfm m) wr
  q : wr.heap[w.heap.size + 1 + 2 * cnt]? = some (.cells (qBlk 0 pd (hdm w.heap.size cnt m) (tlm w.heap.size cnt m)) 35)

theorem wake_all {w wr : World} {cnt : Nat} {pd : Int} (h : QM w cnt cnt pd wr) :
    Calls Yba.prog 5 #[ptr (w.heap.size + 1 + 2 * cnt)] wr fun e w' => e = .returned (.tuple #[]) ∧ QM w cnt cnt ((pd + 1) % 4294967296) w' := by
  have hd : hdm w.heap.size cnt cnt = nilP := if_neg (Nat.lt_irrefl _)
  have tl : tlm w.heap.size cnt cnt = nilP := if_neg (Nat.lt_irrefl _)
  have hq := h.q
  rw [hd, tl] at hq
  refine (wake_none _ pd nilP wr hq).mono ?_
  rintro e w' ⟨rfl, hq', hk⟩
  have hs := h.ws.size
  refine ⟨rfl, ⟨?_, fun j hj => ?_, fun j hj => ?_, h.ws.below.trans (hk.below (by omega) (by simp; omega)), Nat.le_trans hs hk.size⟩, by rw [hd, tl]; exact hq'⟩
  · obtain ⟨R, e, r⟩ := h.ws.row; exact ⟨R, by rw [hk.block _ (lt_of_heap e) (by simp; omega)]; exact e, r⟩
  · obtain ⟨s, r, e⟩ := h.ws.chan j hj; exact ⟨s, r, by rw [hk.block _ (lt_of_heap e) (by simp; omega)]; exact e⟩
  · have e := h.ws.wtr j hj; rw [hk.block _ (lt_of_heap e) (by simp; omega)]; exact e

theorem wake_one {w wr : World} {cnt m : Nat} {pd : Int} (h : QM w cnt m pd wr) (hm : m < cnt) :
    Calls Yba.prog 5 #[ptr (w.heap.size + 1 + 2 * cnt)] wr fun e w' => e = .returned (.tuple #[]) ∧ QM w cnt (m + 1) pd w' := by
  have hd : hdm w.heap.size cnt m = ptr (w.heap.size + 2 + 2 * m) := if_pos hm
  have hq := h.q
  rw [hd] at hq
  have hM := h.ws.wtr m hm
  have p1 : pvm w.heap.size m m = nilP := if_neg (Nat.lt_irrefl _)
  rw [p1] at hM
  obtain ⟨s, r, hC⟩ := h.ws.chan m hm
  have b1 : cbuf (bfm m m) = #[] := by simp [bfm, cbuf]
  rw [b1] at hC
  have hs := h.ws.size
  by_cases hlast : m + 1 < cnt
  · have n1 : nvm w.heap.size cnt m m = ptr (w.heap.size + 2 + 2 * (m + 1)) := if_pos ⟨Nat.le_refl _, hlast⟩
    rw [n1] at hM
    have hN := h.ws.wtr (m + 1) hlast
    refine (wake_first _ _ _ _ pd _ _ _ _ wr hq hM hN hC (by omega)).mono ?_
    rintro e w' ⟨rfl, hq', hM', hN', hC', hk⟩
    have kb : ∀ {k : Nat} {o : Obj}, wr.heap[k]? = some o → k ≠ w.heap.size + 1 + 2 * cnt → k ≠ w.heap.size + 2 + 2 * m → k ≠ w.heap.size + 2 + 2 * (m + 1) → k ≠ w.heap.size + 1 + 2 * m → w'.heap[k]? = some o := by
      intro k o hk1 a b c d
      rw [hk.block _ (lt_of_heap hk1) (by simp [a, b, c, d])]; exact hk1
    refine ⟨rfl, ⟨?_, fun j hj => ?_, fun j hj => ?_, h.ws.below.trans (hk.below (by omega) (by simp; omega)), Nat.le_trans hs hk.size⟩, ?_⟩
    · obtain ⟨R, e, r⟩ := h.ws.row; exact ⟨R, kb e (by omega) (by omega) (by omega) (by omega), r⟩
    · by_cases ej : j = m
      · subst ej
        exact ⟨s + 1, r, by rw [show cbuf (bfm (j + 1) j) = #[.agg #[]] by simp [bfm, cbuf]]; exact hC'⟩
      · obtain ⟨s, r, e⟩ := h.ws.chan j hj
        have eb : bfm (m + 1) j = bfm m j := by simp only [bfm]; congr 1; exact propext ⟨fun _ => by omega, fun _ => by omega⟩
        exact ⟨s, r, by rw [eb]; exact kb e (by omega) (by omega) (by omega) (by omega)⟩
    · by_cases ej : j = m
      · subst ej
        rw [show pvm w.heap.size (j + 1) j = nilP from if_neg (by omega), show nvm w.heap.size cnt (j + 1) j = nilP from if_neg (by omega)]
        exact hM'
      · by_cases ej1 : j = m + 1
        · subst ej1
          rw [show pvm w.heap.size (m + 1) (m + 1) = nilP from if_neg (by omega)]
          have en : nvm w.heap.size cnt (m + 1) (m + 1) = nvm w.heap.size cnt m (m + 1) := by
            unfold nvm; simp [show m ≤ m + 1 by omega]
          rw [en]
          exact hN'
        · have e := h.ws.wtr j hj
          have ep : pvm w.heap.size (m + 1) j = pvm w.heap.size m j := by
            unfold pvm
            by_cases hc : m < j
            · rw [if_pos hc, if_pos (by omega)]
            · rw [if_neg hc, if_neg (by omega)]
          have en : nvm w.heap.size cnt (m + 1) j = nvm w.heap.size cnt m j := by
            unfold nvm
            by_cases hc : m ≤ j ∧ j + 1 < cnt
            · rw [if_pos hc, if_pos ⟨by omega, hc.2⟩]
            · rw [if_neg hc, if_neg (by omega)]
          rw [ep, en]
          exact kb e (by omega) (by omega) (by omega) (by omega)
    · rw [show hdm w.heap.size cnt (m + 1) = ptr (w.heap.size + 2 + 2 * (m + 1)) from if_pos hlast, show tlm w.heap.size cnt (m + 1) = tlm w.heap.size cnt m by unfold tlm; rw [if_pos hlast, if_pos hm]]
      exact hq'
  · have n1 : nvm w.heap.size cnt m m = nilP := if_neg (by omega)
    rw [n1] at hM
    refine (wake_last _ _ _ pd _ wr hq hM hC).mono ?_
    rintro e w' ⟨rfl, hq', hM', hC', hk⟩
    have kb : ∀ {k : Nat} {o : Obj}, wr.heap[k]? = some o → k ≠ w.heap.size + 1 + 2 * cnt → k ≠ w.heap.size + 2 + 2 * m → k ≠ w.heap.size + 1 + 2 * m → w'.heap[k]? = some o := by
      intro k o hk1 a b d
      rw [hk.block _ (lt_of_heap hk1) (by simp [a, b, d])]; exact hk1
    refine ⟨rfl, ⟨?_, fun j hj => ?_, fun j hj => ?_, h.ws.below.trans (hk.below (by omega) (by simp; omega)), Nat.le_trans hs hk.size⟩, ?_⟩
    · obtain ⟨R, e, r⟩ := h.ws.row; exact ⟨R, kb e (by omega) (by omega) (by omega), r⟩
    · by_cases ej : j = m
      · subst ej
        exact ⟨s + 1, r, by rw [show cbuf (bfm (j + 1) j) = #[.agg #[]] by simp [bfm, cbuf]]; exact hC'⟩
      · obtain ⟨s, r, e⟩ := h.ws.chan j hj
        have eb : bfm (m + 1) j = bfm m j := by simp only [bfm]; congr 1; exact propext ⟨fun _ => by omega, fun _ => by omega⟩
        exact ⟨s, r, by rw [eb]; exact kb e (by omega) (by omega) (by omega)⟩
    · by_cases ej : j = m
      · subst ej
        rw [show pvm w.heap.size (j + 1) j = nilP from if_neg (by omega), show nvm w.heap.size cnt (j + 1) j = nilP from if_neg (by omega)]
        exact hM'
      · have e := h.ws.wtr j hj
        have ep : pvm w.heap.size (m + 1) j = pvm w.heap.size m j := by
          unfold pvm
          rw [if_neg (by omega), if_neg (by omega)]
        have en : nvm w.heap.size cnt (m + 1) j = nvm w.heap.size cnt m j := by
          unfold nvm
          rw [if_neg (by omega), if_neg (by omega)]
        rw [ep, en]
        exact kb e (by omega) (by omega) (by omega)
    · rw [show hdm w.heap.size cnt (m + 1) = nilP from if_neg hlast, show tlm w.heap.size cnt (m + 1) = nilP from if_neg hlast]
      exact hq'
end Go.Proofs.Ybulkaboq
