/-
  What a call leaves as it was ('Kept'), and the contracts of errors.New and of the methods of the law's own context.
-/
import Derived.Test.YbulkablyRows
import Derived.Test.YbulkablyComm
import Derived.WalkKit
import Derived.BigQuiet
import Derived.Deep.QuietTactic
import Derived.Deep.Cut
import Derived.WalkLawsBesides
import Derived.WideLaws
import Derived.Laws.EntriesVeiled
namespace Go.Proofs.Ybulkably
open Go.Conc Go.RowKit

/-- Every block that was there, but for those of S, is as it was; the streams are as they were. -/
structure Kept (S : List Nat) (w w' : World) : Prop where
  os : w'.os = w.os
  tape : w'.tape = w.tape
  output : w'.output = w.output
  size : w.heap.size ≤ w'.heap.size
  block : ∀ j, j < w.heap.size → j ∉ S → w'.heap[j]? = w.heap[j]?

theorem Kept.refl (S : List Nat) (w : World) : Kept S w w := ⟨rfl, rfl, rfl, Nat.le_refl _, fun _ _ _ => rfl⟩
theorem Kept.trans {S : List Nat} {a b c : World} (h : Kept S a b) (k : Kept S b c) : Kept S a c :=
  ⟨k.os.trans h.os, k.tape.trans h.tape, k.output.trans h.output, Nat.le_trans h.size k.size, fun j hj hn => (k.block j (Nat.lt_of_lt_of_le hj h.size) hn).trans (h.block j hj hn)⟩
theorem Kept.mono {S S' : List Nat} {a b : World} (h : Kept S a b) (hs : ∀ j, j ∈ S → j ∈ S') : Kept S' a b :=
  ⟨h.os, h.tape, h.output, h.size, fun j hj hn => h.block j hj (fun m => hn (hs j m))⟩
theorem Kept.drewN {S : List Nat} {a w : World} (h : Kept S a w) (n : Nat) : Kept S a (w.drewN n) := h.trans ⟨rfl, rfl, rfl, Nat.le_refl _, fun _ _ _ => rfl⟩
theorem Kept.drew {S : List Nat} {a w : World} (h : Kept S a w) : Kept S a w.drew := h.trans ⟨rfl, rfl, rfl, Nat.le_refl _, fun _ _ _ => rfl⟩
theorem Kept.alloc {S : List Nat} {a w : World} (h : Kept S a w) (o : Obj) : Kept S a (w.alloc o) :=
  h.trans ⟨rfl, rfl, rfl, by simp, fun j hj _ => Below.heap_alloc _ _ _ hj⟩
theorem Kept.setCell {S : List Nat} {a w : World} (h : Kept S a w) {p : Addr} (hp : p.block ∈ S ∨ a.heap.size ≤ p.block) (u : Value) : Kept S a (w.setCell p u) :=
  ⟨h.os, h.tape, h.output, by simpa using h.size, fun j hj hn => by
    rw [Below.heap_setCell _ _ _ _ (fun e => by rcases hp with hp | hp; exact hn (e ▸ hp); omega)]
    exact h.block j hj hn⟩
theorem Kept.setChan {S : List Nat} {a w : World} (h : Kept S a w) {c : Nat} (hc : c ∈ S) (cap : Nat) (buf : Array Value) (cl : Bool) (s r : Nat) (tm : Bool) : Kept S a (w.setChan c cap buf cl s r tm) :=
  ⟨h.os, h.tape, h.output, by simpa [World.setChan] using h.size, fun j hj hn => by
    simp only [World.setChan]
    have hcj : c ≠ j := fun e => hn (e ▸ hc)
    rw [Array.getElem?_setIfInBounds_ne hcj]
    exact h.block j hj hn⟩
theorem Kept.below {S : List Nat} {w w' : World} (h : Kept S w w') {B : Nat} (hB : B ≤ w.heap.size) (hs : ∀ j, j ∈ S → B ≤ j) : Below B w w' :=
  ⟨h.os, h.tape, h.output, h.size, fun j hj => h.block j (by omega) (fun m => by have := hs j m; omega)⟩

/-- A block of cells, none of them marked. -/
theorem cell_of {w : World} {b o : Nat} {cs : Array Value} {t : TypeId} {v : Value} (h : w.heap[b]? = some (.cells cs t)) (hv : cs[o]? = some v) : w.cell? ⟨b, o, none⟩ = some v := by
  simp [World.cell?, h, hv]
theorem frozen_of {w : World} {b o : Nat} {cs : Array Value} {t : TypeId} (h : w.heap[b]? = some (.cells cs t)) : w.frozen? ⟨b, o, none⟩ = false := by
  simp [World.frozen?, h]
theorem lt_of_heap {w : World} {b : Nat} {o : Obj} (h : w.heap[b]? = some o) : b < w.heap.size := by
  rcases Nat.lt_or_ge b w.heap.size with hl | hl
  · exact hl
  · simp [Array.getElem?_eq_none hl] at h
theorem heap_set {w : World} {b o : Nat} {cs : Array Value} {t : TypeId} (v : Value) (h : w.heap[b]? = some (.cells cs t)) : (w.setCell ⟨b, o, none⟩ v).heap[b]? = some (.cells (cs.setIfInBounds o v) t) := by
  simp [World.setCell, Array.getElem?_modify, h]
/-- A struct of two cells, stored. -/
theorem two_set {w : World} {g : Nat} {u v : Value} (x y : Value) (g0 : w.cell? ⟨g, 0, none⟩ = some u) (g1 : w.cell? ⟨g, 1, none⟩ = some v) :
    ((w.setCell ⟨g, 0, none⟩ x).setCell ⟨g, 1, none⟩ y).cell? ⟨g, 0, none⟩ = some x ∧ ((w.setCell ⟨g, 0, none⟩ x).setCell ⟨g, 1, none⟩ y).cell? ⟨g, 1, none⟩ = some y := by
  refine ⟨(World.cell?_setCell_other _ _ _ _ (by simp)).trans (World.cell?_setCell_same _ _ _ g0), World.cell?_setCell_same (u := v) _ _ _ ((World.cell?_setCell_other _ _ _ _ (by simp)).trans g1)⟩
theorem heap_drewN (w : World) (n : Nat) : (w.drewN n).heap = w.heap := rfl
theorem heap_drew (w : World) : w.drew.heap = w.heap := rfl

theorem new_any (s : ByteArray) (w : World) : Calls Yba.prog 5 #[.string s] w fun e w' => e = .returned (.iface 61 (.pointer (some ⟨w.heap.size, 0, none⟩))) ∧ w' = w.alloc (.cells #[.string s] 63) := by
  go_enter Yba.func5, Yba.ntmps5
  go_wp2
  go_ret
  exact ⟨rfl, rfl⟩

theorem done_any (a : Addr) (w : World) : Calls Yba.prog 47 #[.pointer (some a)] w fun e w' => e = .returned (.chan none) ∧ w' = w := by
  go_enter Yba.func47, Yba.ntmps47
  go_wp2
  go_ret
  exact ⟨rfl, rfl⟩

theorem err_ok (b : Nat) (k c : Int) (w : World) (hC : w.heap[b]? = some (.cells #[.int .i64 k, .int .i64 c] 59)) (hc0 : 0 ≤ c) (hc1 : c ≤ 100000) (hle : c + 1 ≤ k) :
    Calls Yba.prog 48 #[.pointer (some ⟨b, 0, none⟩)] w fun e w' => e = .returned .nilIface ∧ w'.heap[b]? = some (.cells #[.int .i64 k, .int .i64 (c + 1)] 59) ∧ Kept [b] w w' := by
  have h0 := cell_of (o := 0) hC rfl
  have h1 := cell_of (o := 1) hC rfl
  have f1 := frozen_of (o := 1) hC
  have HC : Hid (w.heap[b]? = some (.cells #[.int .i64 k, .int .i64 c] 59)) := hC
  clear hC
  go_enter Yba.func48, Yba.ntmps48
  go_wp2
  go_quiet (fail)
  go_wp2
  go_ret
  exact ⟨rfl, by rw [heap_drewN]; exact heap_set _ HC.out, ((Kept.refl _ _).setCell (.inl (by simp)) _).drewN _⟩

theorem err_done (b : Nat) (k c : Int) (w : World) (hC : w.heap[b]? = some (.cells #[.int .i64 k, .int .i64 c] 59)) (hc0 : 0 ≤ c) (hc1 : c ≤ 100000) (hle : k < c + 1) :
    Calls Yba.prog 48 #[.pointer (some ⟨b, 0, none⟩)] w fun e w' => ∃ p, e = .returned (.iface 61 (.pointer p)) ∧ w'.heap[b]? = some (.cells #[.int .i64 k, .int .i64 (c + 1)] 59) ∧ Kept [b] w w' := by
  have h0 := cell_of (o := 0) hC rfl
  have h1 := cell_of (o := 1) hC rfl
  have f1 := frozen_of (o := 1) hC
  have hl := lt_of_heap hC
  have HC : Hid (w.heap[b]? = some (.cells #[.int .i64 k, .int .i64 c] 59)) := hC
  clear hC
  go_enter Yba.func48, Yba.ntmps48
  go_wp2
  go_quiet (fail)
  go_wp2_with (go_at_call 5; refine (new_any _ _).mono ?_; rintro e w' ⟨rfl, rfl⟩)
  go_ret
  refine ⟨_, rfl, ?_, (((Kept.refl _ _).setCell (.inl (by simp)) _).drewN _).alloc _⟩
  rw [Below.heap_alloc _ _ _ (by simpa using hl), heap_drewN]
  exact heap_set _ HC.out
end Go.Proofs.Ybulkably
