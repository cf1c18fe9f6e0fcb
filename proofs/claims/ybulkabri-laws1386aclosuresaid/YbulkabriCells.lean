/-
  The data's cells and keys; a vertex's neighbours; which colours are stones.
-/
import Derived.Test.YbulkabriBits
namespace Go.Proofs.Ybulkabri
open Go.RowKit

/-- WHAT THE WALK IS TOLD OF A SLICE OF INTEGERS THAT CAME IN. -/
def IsRow (k : IntKind) (w : World) (a : Option Addr) (len cap : Nat) (zs : List Int) : Prop :=
  (a = none ∧ len = 0 ∧ cap = 0 ∧ zs = []) ∨
  ∃ x, a = some x ∧ len ≤ cap ∧ cap ≤ maxLen ∧ zs.length = cap ∧ (∀ i, i < zs.length → w.cell? (x.add i) = some (.int k (zs.getD i 0))) ∧ ∀ n ∈ zs, (Lit.int k n).wf = true
theorem IsRow.lens {k : IntKind} {w : World} {a : Option Addr} {len cap : Nat} {zs : List Int} (h : IsRow k w a len cap zs) : len ≤ zs.length ∧ len ≤ maxLen := by
  rcases h with ⟨_, rfl, _, rfl⟩ | ⟨x, _, hl, hm, hz, _⟩
  · simp
  · omega
theorem IsRow.at_ {k : IntKind} {w : World} {a : Option Addr} {len cap : Nat} {zs : List Int} (h : IsRow k w a len cap zs) {i : Nat} (hi : i < len) :
    ∃ b off, a = some ⟨b, off, none⟩ ∧ b < w.heap.size ∧ w.cell? ⟨b, off + i, none⟩ = some (.int k (zs.getD i 0)) := by
  rcases h with ⟨_, rfl, _, rfl⟩ | ⟨x, rfl, hl, hm, hz, hc, _⟩
  · omega
  · obtain ⟨b, off, rfl, hc'⟩ := ints_at hc (by omega)
    have h1 := hc' i (by omega)
    exact ⟨b, off, rfl, World.block_lt_of_cell? _ _ h1, h1⟩
theorem IsRow.wf {k : IntKind} {w : World} {a : Option Addr} {len cap : Nat} {zs : List Int} (h : IsRow k w a len cap zs) {i : Nat} (hi : i < len) : (Lit.int k (zs.getD i 0)).wf = true := by
  rcases h with ⟨_, rfl, _, rfl⟩ | ⟨x, rfl, hl, hm, hz, hc, hw⟩
  · omega
  · have : i < zs.length := by omega
    simp only [List.getD_eq_getElem?_getD, List.getElem?_eq_getElem this, Option.getD_some]
    exact hw _ (List.getElem_mem this)
theorem IsRow.later {k : IntKind} {w w' : World} {a : Option Addr} {len cap : Nat} {zs : List Int} (h : IsRow k w a len cap zs) (hb : Below w.heap.size w w') : IsRow k w' a len cap zs := by
  rcases h with h | ⟨x, h1, h2, h3, h4, hc, hw⟩
  · exact .inl h
  · refine .inr ⟨x, h1, h2, h3, h4, fun i hi => ?_, hw⟩
    have h5 := hc i hi
    have hlt := World.block_lt_of_cell? _ _ h5
    rw [hb.cell hlt]; exact h5

def cellAt (len : Nat) (zs : List Int) (i : Nat) : Int := if i < len then zs.getD i 0 else 0
def keyOfCell (d : Int) : Int := if d % 3 = 0 then -1 else (d % 3 - 1) * 4 + d / 3 % 4
def keyAt (len : Nat) (zs : List Int) (i : Nat) : Int := keyOfCell (cellAt len zs i)
theorem cell_bd {w : World} {a : Option Addr} {len cap : Nat} {zs : List Int} (h : IsRow .u8 w a len cap zs) (i : Nat) : 0 ≤ cellAt len zs i ∧ cellAt len zs i ≤ 255 := by
  unfold cellAt
  split
  · rename_i hi
    exact bounds_u8 (h.wf hi)
  · omega

set_option maxRecDepth 100000 in
set_option maxHeartbeats 400000 in
theorem acell_any (a : Option Addr) (len cap : Nat) (zs : List Int) (i : Nat) (w : World) (h : IsRow .u8 w a len cap zs) :
    Calls Yba.prog 8 #[.slice a len cap, .int .i64 i] w fun e w' => e = .returned (.int .u8 (cellAt len zs i)) ∧ w' = w := by
  have hl := h.lens
  unfold maxLen at hl
  obtain ⟨hz, hm⟩ := hl
  by_cases hi : i < len
  · obtain ⟨b, off, rfl, hbl, hcell⟩ := h.at_ hi
    have e : cellAt len zs i = zs.getD i 0 := if_pos hi
    rw [← e] at hcell
    obtain ⟨y, hy⟩ : ∃ y, y = cellAt len zs i := ⟨_, rfl⟩
    rw [← hy] at hcell ⊢
    clear hy e
    go_enter Yba.func8, Yba.ntmps8
    go_wp2
    go_ret
    exact ⟨rfl, rfl⟩
  · have e : cellAt len zs i = 0 := if_neg hi
    rw [e]
    clear e
    go_enter Yba.func8, Yba.ntmps8
    go_wp2
    go_ret
    exact ⟨rfl, rfl⟩

set_option maxRecDepth 100000 in
set_option maxHeartbeats 400000 in
theorem akey_any (a : Option Addr) (len cap : Nat) (zs : List Int) (i : Nat) (w : World) (h : IsRow .u8 w a len cap zs) :
    Calls Yba.prog 9 #[.slice a len cap, .int .i64 i] w fun e w' => e = .returned (.int .i64 (keyAt len zs i)) ∧ w' = w := by
  have hb := cell_bd h i
  have hc := fun w' (hh : w' = w) => (hh ▸ acell_any a len cap zs i w h : Calls Yba.prog 8 #[.slice a len cap, .int .i64 i] w' _)
  unfold keyAt
  obtain ⟨d, hd⟩ : ∃ d, d = cellAt len zs i := ⟨_, rfl⟩
  rw [← hd] at hb ⊢
  obtain ⟨hb0, hb1⟩ := hb
  have HD := hide hd
  clear hd hc
  by_cases h3 : d % 3 = 0
  · have e : keyOfCell d = -1 := if_pos h3
    rw [e]
    have hz : (d % 3 == 0) = true := by simpa using h3
    have H3 := hide h3
    clear e h3
    go_enter Yba.func9, Yba.ntmps9
    go_wp2_with (go_at_call 8; refine (acell_any a len cap zs i _ h).mono ?_; rw [← HD.out]; rintro e w' ⟨rfl, rfl⟩)
    go_ret
    exact ⟨rfl, rfl⟩
  · have e : keyOfCell d = (d % 3 - 1) * 4 + d / 3 % 4 := if_neg h3
    rw [e]
    have hz : (d % 3 == 0) = false := by simpa using h3
    have H3 := hide h3
    clear e h3
    go_enter Yba.func9, Yba.ntmps9
    go_wp2_with (go_at_call 8; refine (acell_any a len cap zs i _ h).mono ?_; rw [← HD.out]; rintro e w' ⟨rfl, rfl⟩)
    go_ret
    exact ⟨rfl, rfl⟩

set_option maxRecDepth 100000 in
theorem stone_any (c : Int) (w : World) (h0 : 0 ≤ c) (h1 : c ≤ 3) :
    Calls Yba.prog 11 #[.int .i8 c] w fun e w' => e = .returned (.bool (decide (c = 1 ∨ c = 2))) ∧ w' = w := by
  have : c = 0 ∨ c = 1 ∨ c = 2 ∨ c = 3 := by omega
  rcases this with rfl | rfl | rfl | rfl
  all_goals
    go_enter Yba.func11, Yba.ntmps11
    go_wp2
    go_ret
    exact ⟨rfl, rfl⟩
end Go.Proofs.Ybulkabri
