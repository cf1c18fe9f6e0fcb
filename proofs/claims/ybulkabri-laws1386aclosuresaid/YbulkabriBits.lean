/-
  A set of vertices as sixteen words: its plain functions, and the contracts of word, has, add (Go's own) and of the law's has and put.
-/
import Derived.Test.YbulkabriRows
import Derived.WalkKit
import Derived.WalkLawsBesides
import Derived.Laws.Bits64b
import Derived.BigQuiet
import Derived.Deep.QuietTactic
import Derived.Deep.RegionWith
import Derived.Deep.Cut
import Derived.Deep.CutRange
import Derived.Deep.LoopGhost
import Derived.OpenShut
namespace Go.Proofs.Ybulkabri
open Go.RowKit

theorem hide {p : Prop} (h : p) : Hid p := h

/-! ### plain -/
def bitOf (v : Nat) : Nat := 2 ^ (v % 64)
def mem (S : Nat → Nat) (v : Nat) : Bool := (S (v / 64)).testBit (v % 64)
def addS (S : Nat → Nat) (v : Nat) : Nat → Nat := fun i => if i = v / 64 then S i ||| bitOf v else S i
def Fits (S : Nat → Nat) : Prop := ∀ i, S i < 18446744073709551616
theorem bitOf_lt (v : Nat) : bitOf v < 18446744073709551616 := by
  unfold bitOf
  calc 2 ^ (v % 64) ≤ 2 ^ 63 := Nat.pow_le_pow_right (by omega) (by omega)
    _ < _ := by omega
theorem Fits.add {S : Nat → Nat} (h : Fits S) (v : Nat) : Fits (addS S v) := by
  intro i
  unfold addS
  split
  · exact Nat.or_lt_two_pow (n := 64) (h i) (bitOf_lt v)
  · exact h i
theorem mem_add (S : Nat → Nat) (v u : Nat) : mem (addS S v) u = (mem S u || decide (u = v)) := by
  unfold mem addS bitOf
  by_cases h : u / 64 = v / 64
  · rw [if_pos h, Nat.testBit_or, Nat.testBit_two_pow]
    congr 1
    simp only [decide_eq_decide]
    constructor <;> intro e <;> omega
  · rw [if_neg h]
    have : decide (u = v) = false := by simp; omega
    rw [this, Bool.or_false]
theorem and_bit (a v : Nat) : ((a &&& bitOf v : Nat) != 0) = a.testBit (v % 64) := by
  unfold bitOf
  cases h : a.testBit (v % 64) with
  | false =>
    have : a &&& 2 ^ (v % 64) = 0 := by
      apply Nat.eq_of_testBit_eq
      intro j
      rw [Nat.testBit_and, Nat.testBit_two_pow, Nat.zero_testBit]
      by_cases e : v % 64 = j
      · subst e; rw [h, Bool.false_and]
      · simp [e]
    rw [this]; rfl
  | true =>
    have h1 : (a &&& 2 ^ (v % 64)).testBit (v % 64) = true := by
      rw [Nat.testBit_and, h, Nat.testBit_two_pow]; simp
    have : a &&& 2 ^ (v % 64) ≠ 0 := fun e => by rw [e, Nat.zero_testBit] at h1; cases h1
    simpa using this
theorem and_bit' (a v : Nat) : (((a &&& bitOf v : Nat) : Int) != 0) = a.testBit (v % 64) := by
  rw [← and_bit, Bool.eq_iff_iff, bne_iff_ne, bne_iff_ne]
  omega
/-- Two sets with the same members. -/
theorem set_ext {S T : Nat → Nat} (hS : Fits S) (hT : Fits T) (h : ∀ u, u < 1024 → mem S u = mem T u) : ∀ i, i < 16 → S i = T i := by
  intro i hi
  apply Nat.eq_of_testBit_eq
  intro b
  by_cases hb : b < 64
  · have := h (64 * i + b) (by omega)
    unfold mem at this
    rw [show (64 * i + b) / 64 = i by omega, show (64 * i + b) % 64 = b by omega] at this
    exact this
  · have p : 18446744073709551616 ≤ 2 ^ b := by
      calc 18446744073709551616 = 2 ^ 64 := by decide
        _ ≤ 2 ^ b := Nat.pow_le_pow_right (by omega) (by omega)
    rw [Nat.testBit_lt_two_pow (Nat.lt_of_lt_of_le (hS i) p), Nat.testBit_lt_two_pow (Nat.lt_of_lt_of_le (hT i) p)]

/-! ### in memory -/
def words (S : Nat → Nat) : Array Value := ((List.range 16).map fun i => Value.int .u64 (S i)).toArray
theorem words_at (S : Nat → Nat) {i : Nat} (h : i < 16) : (words S)[i]? = some (.int .u64 (S i)) := by
  simp [words, h]
theorem words_set (S : Nat → Nat) (v : Nat) (h : v < 1024) : (words S).setIfInBounds (v / 64) (.int .u64 ((S (v / 64) ||| bitOf v : Nat) : Int)) = words (addS S v) := by
  apply Array.ext_getElem?
  intro i
  by_cases e : v / 64 = i
  · subst e
    rw [Array.getElem?_setIfInBounds_self_of_lt (by simp [words]; omega), words_at _ (by omega)]
    simp [addS]
  · rw [Array.getElem?_setIfInBounds_ne e]
    by_cases hi : i < 16
    · rw [words_at _ hi, words_at _ hi]
      simp [addS, Ne.symm e]
    · simp [words, hi]
theorem cell_of {w : World} {b o : Nat} {cs : Array Value} {t : TypeId} {v : Value} (h : w.heap[b]? = some (.cells cs t)) (hv : cs[o]? = some v) : w.cell? ⟨b, o, none⟩ = some v := by
  simp [World.cell?, h, hv]
theorem frozen_of {w : World} {b o : Nat} {cs : Array Value} {t : TypeId} (h : w.heap[b]? = some (.cells cs t)) : w.frozen? ⟨b, o, none⟩ = false := by
  simp [World.frozen?, h]
theorem lt_of_heap {w : World} {b : Nat} {o : Obj} (h : w.heap[b]? = some o) : b < w.heap.size := by
  rcases Nat.lt_or_ge b w.heap.size with hl | hl
  · exact hl
  · simp [Array.getElem?_eq_none hl] at h
theorem heap_set {w : World} {b o : Nat} {cs : Array Value} {t : TypeId} (v : Value) (h : w.heap[b]? = some (.cells cs t)) : (w.setCell ⟨b, o, none⟩ v).heap[b]? = some (.cells (cs.setIfInBounds o v) t) := by
  simp [World.setCell, Array.getElem?_modify, h]

theorem wrap_bit (v : Nat) : IntKind.u64.wrap (2 ^ (v % 64)) = ((bitOf v : Nat) : Int) := by
  have h := bitOf_lt v
  have e : ((bitOf v : Nat) : Int) = 2 ^ (v % 64) := by unfold bitOf; simp
  rw [← e]
  simp only [IntKind.wrap, IntKind.bits, IntKind.signed, Bool.false_and, Bool.false_eq_true, if_false]
  omega

set_option maxRecDepth 100000 in
set_option maxHeartbeats 400000 in
theorem word_any (b v : Nat) (w : World) (hv : v < 1024) :
    Calls Yba.prog 16 #[.pointer (some ⟨b, 0, none⟩), .int .i16 v] w fun e w' => e = .returned (.tuple #[.pointer (some ⟨b, v / 64, none⟩), .int .u64 (bitOf v)]) ∧ w' = w := by
  go_enter Yba.func16, Yba.ntmps16
  go_wp2
  go_ret2
  have e1 : v / 64 % 16 = v / 64 := by omega
  refine ⟨?_, rfl⟩
  rw [← wrap_bit]
  simp [e1]

set_option maxRecDepth 100000 in
set_option maxHeartbeats 400000 in
theorem has_any (b v : Nat) (t : TypeId) (S : Nat → Nat) (w : World) (hv : v < 1024) (hF : Fits S) (hB : w.heap[b]? = some (.cells (words S) t)) :
    Calls Yba.prog 12 #[.pointer (some ⟨b, 0, none⟩), .int .i16 v] w fun e w' => e = .returned (.bool (mem S v)) ∧ w' = w := by
  have hc := cell_of hB (words_at S (i := v / 64) (by omega))
  have hb : (bits .and .u64 (S (v / 64)) (bitOf v) != 0) = mem S v := by
    rw [bits_and_u64_nat _ _ (hF _) (bitOf_lt v)]
    exact and_bit' _ _
  clear hB
  go_enter Yba.func12, Yba.ntmps12
  go_wp2_with (go_at_call 16; refine (word_any b v _ hv).mono ?_; rintro e w' ⟨rfl, rfl⟩)
  go_ret
  exact ⟨rfl, rfl⟩

set_option maxRecDepth 100000 in
set_option maxHeartbeats 400000 in
theorem add_any (b v : Nat) (t : TypeId) (S : Nat → Nat) (w : World) (hv : v < 1024) (hF : Fits S) (hB : w.heap[b]? = some (.cells (words S) t)) :
    Calls Yba.prog 13 #[.pointer (some ⟨b, 0, none⟩), .int .i16 v] w fun e w' => e = .returned (.tuple #[]) ∧ ∃ x, w' = w.setCell ⟨b, v / 64, none⟩ x ∧ w'.heap[b]? = some (.cells (words (addS S v)) t) := by
  have hc := cell_of hB (words_at S (i := v / 64) (by omega))
  have hz := frozen_of (o := v / 64) hB
  have hb : bits .or .u64 (S (v / 64)) (bitOf v) = ((S (v / 64) ||| bitOf v : Nat) : Int) := bits_or_u64_nat _ _ (hF _) (bitOf_lt v)
  have HB := hide hB
  clear hB
  go_enter Yba.func13, Yba.ntmps13
  go_wp2_with (go_at_call 16; refine (word_any b v _ hv).mono ?_; rintro e w' ⟨rfl, rfl⟩)
  go_end0
  exact ⟨rfl, _, rfl, by rw [← words_set S v hv]; exact heap_set _ HB.out⟩

set_option maxRecDepth 100000 in
set_option maxHeartbeats 400000 in
theorem ahas_any (b v : Nat) (t : TypeId) (S : Nat → Nat) (w : World) (hv : v < 1024) (hF : Fits S) (hB : w.heap[b]? = some (.cells (words S) t)) :
    Calls Yba.prog 14 #[.pointer (some ⟨b, 0, none⟩), .int .i64 v] w fun e w' => e = .returned (.bool (mem S v)) ∧ w' = w := by
  have hc := cell_of hB (words_at S (i := v / 64) (by omega))
  have hb : (bits .and .u64 (S (v / 64)) (bitOf v) != 0) = mem S v := by
    rw [bits_and_u64_nat _ _ (hF _) (bitOf_lt v)]
    exact and_bit' _ _
  have hw := wrap_bit v
  clear hB
  go_enter Yba.func14, Yba.ntmps14
  go_wp2
  go_ret
  exact ⟨rfl, rfl⟩

set_option maxRecDepth 100000 in
set_option maxHeartbeats 400000 in
theorem aput_any (b v : Nat) (t : TypeId) (S : Nat → Nat) (w : World) (hv : v < 1024) (hF : Fits S) (hB : w.heap[b]? = some (.cells (words S) t)) :
    Calls Yba.prog 15 #[.pointer (some ⟨b, 0, none⟩), .int .i64 v] w fun e w' => e = .returned (.tuple #[]) ∧ ∃ x, w' = (w.setCell ⟨b, v / 64, none⟩ x).drew ∧ w'.heap[b]? = some (.cells (words (addS S v)) t) := by
  have hc := cell_of hB (words_at S (i := v / 64) (by omega))
  have hz := frozen_of (o := v / 64) hB
  have hb : bits .or .u64 (S (v / 64)) (bitOf v) = ((S (v / 64) ||| bitOf v : Nat) : Int) := bits_or_u64_nat _ _ (hF _) (bitOf_lt v)
  have hw := wrap_bit v
  have HB := hide hB
  clear hB
  go_enter Yba.func15, Yba.ntmps15
  go_wp2
  go_region
  all_goals
    go_end0
    exact ⟨rfl, _, rfl, by rw [← words_set S v hv]; exact heap_set _ HB.out⟩
end Go.Proofs.Ybulkabri
