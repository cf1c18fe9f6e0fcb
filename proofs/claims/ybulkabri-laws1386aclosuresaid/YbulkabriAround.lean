/-
  Neighbours and addAround.
-/
import Derived.Test.YbulkabriBuild
namespace Go.Proofs.Ybulkabri
open Go.RowKit

set_option maxRecDepth 100000 in
set_option maxHeartbeats 400000 in
theorem neigh_any (bb s v : Nat) (w : World) (hc : w.cell? ⟨bb, 1, none⟩ = some (.int .i64 s)) (hs : s ≤ 27) (hv0 : s < v) (hv : v + s < 1000) (hs1 : 1 ≤ s) :
    Calls Yba.prog 10 #[.pointer (some ⟨bb, 0, none⟩), .int .i16 v] w fun e w' => e = .returned (.agg #[.int .i16 ((v : Int) - 1), .int .i16 ((v : Int) + 1), .int .i16 ((v : Int) - s), .int .i16 ((v : Int) + s)]) ∧ Below w.heap.size w w' := by
  have hl := World.block_lt_of_cell? _ _ hc
  go_enter Yba.func10, Yba.ntmps10
  go_wp2
  refine bodyPost_ret (v := .agg #[.int .i16 ((v : Int) - 1), .int .i16 ((v : Int) + 1), .int .i16 ((v : Int) - s), .int .i16 ((v : Int) + s)]) (by simp [results, Yba.results10, go_sem]) rfl ⟨rfl, ?_⟩
  exact (Below.refl _ _).alloc (Nat.le_refl _) _

theorem idx49 (a b c d : Value) (w : World) :
    (Instr.index 49 (.agg #[a, b, c, d]) (.int .i64 0)).run Yba.prog w = .ok a w ∧ (Instr.index 49 (.agg #[a, b, c, d]) (.int .i64 1)).run Yba.prog w = .ok b w ∧ (Instr.index 49 (.agg #[a, b, c, d]) (.int .i64 2)).run Yba.prog w = .ok c w ∧ (Instr.index 49 (.agg #[a, b, c, d]) (.int .i64 3)).run Yba.prog w = .ok d w := by
  refine ⟨?_, ?_, ?_, ?_⟩ <;> kernel_rfl

/-- Every old block outside S is as it was. -/
structure Kept (S : List Nat) (w w' : World) : Prop where
  os : w'.os = w.os
  tape : w'.tape = w.tape
  output : w'.output = w.output
  size : w.heap.size ≤ w'.heap.size
  block : ∀ j, j < w.heap.size → j ∉ S → w'.heap[j]? = w.heap[j]?
theorem Kept.refl (S : List Nat) (w : World) : Kept S w w := ⟨rfl, rfl, rfl, Nat.le_refl _, fun _ _ _ => rfl⟩
theorem Kept.trans {S : List Nat} {a b c : World} (h : Kept S a b) (k : Kept S b c) : Kept S a c :=
  ⟨k.os.trans h.os, k.tape.trans h.tape, k.output.trans h.output, Nat.le_trans h.size k.size, fun j hj hn => (k.block j (Nat.lt_of_lt_of_le hj h.size) hn).trans (h.block j hj hn)⟩
theorem Kept.drewN {S : List Nat} {a w : World} (h : Kept S a w) (n : Nat) : Kept S a (w.drewN n) := h.trans ⟨rfl, rfl, rfl, Nat.le_refl _, fun _ _ _ => rfl⟩
theorem Kept.drew {S : List Nat} {a w : World} (h : Kept S a w) : Kept S a w.drew := h.trans ⟨rfl, rfl, rfl, Nat.le_refl _, fun _ _ _ => rfl⟩
theorem Kept.alloc {S : List Nat} {a w : World} (h : Kept S a w) (o : Obj) : Kept S a (w.alloc o) :=
  h.trans ⟨rfl, rfl, rfl, by simp, fun j hj _ => Below.heap_alloc _ _ _ hj⟩
theorem Kept.setCell {S : List Nat} {a w : World} (h : Kept S a w) {p : Addr} (hp : p.block ∈ S ∨ a.heap.size ≤ p.block) (u : Value) : Kept S a (w.setCell p u) :=
  ⟨h.os, h.tape, h.output, by simpa using h.size, fun j hj hn => by
    rw [Below.heap_setCell _ _ _ _ (fun e => by rcases hp with hp | hp; exact hn (e ▸ hp); omega)]
    exact h.block j hj hn⟩
theorem Kept.below {S : List Nat} {w w' : World} (h : Kept S w w') {B : Nat} (hB : B ≤ w.heap.size) (hs : ∀ j, j ∈ S → B ≤ j) : Below B w w' :=
  ⟨h.os, h.tape, h.output, h.size, fun j hj => h.block j (by omega) (fun m => by have := hs j m; omega)⟩
theorem Kept.of_below {S : List Nat} {w w' : World} (h : Below w.heap.size w w') : Kept S w w' := ⟨h.os, h.tape, h.output, h.size, fun j hj _ => h.block j hj⟩

/-! ### plain -/
def orb (nx : Nat → Nat) (u : Nat) : Nat → Nat
  | 0 => u
  | t + 1 => nx (orb nx u t)
def addOrb (nx : Nat → Nat) (S : Nat → Nat) (u : Nat) : Nat → Nat → Nat
  | 0 => S
  | t + 1 => addS (addOrb nx S u t) (orb nx u t)
theorem addOrb_fits {nx S : Nat → Nat} (h : Fits S) (u : Nat) : ∀ t, Fits (addOrb nx S u t)
  | 0 => h
  | t + 1 => (addOrb_fits h u t).add _
def nbv (s v : Nat) : Nat → Nat
  | 0 => v - 1
  | 1 => v + 1
  | 2 => v - s
  | _ => v + s
def isSt (c : Int) : Bool := decide (c = 1 ∨ c = 2)
def stepS (nx per : Nat → Nat) (col : Nat → Int) (S : Nat → Nat) (u : Nat) : Nat → Nat :=
  if isSt (col u) = true ∧ mem S u = false then addOrb nx S u (per u) else S
def aroundT (nx per : Nat → Nat) (col : Nat → Int) (s v : Nat) (S : Nat → Nat) : Nat → Nat → Nat
  | 0 => S
  | i + 1 => stepS nx per col (aroundT nx per col s v S i) (nbv s v i)
theorem around_fits {nx per S : Nat → Nat} {col : Nat → Int} {s v : Nat} (h : Fits S) : ∀ i, Fits (aroundT nx per col s v S i)
  | 0 => h
  | i + 1 => by
    have := around_fits (nx := nx) (per := per) (col := col) (s := s) (v := v) h i
    simp only [aroundT, stepS]
    split
    · exact addOrb_fits this _ _
    · exact this
/-- Every stone lies on a ring of its own. -/
def Rings (m : Nat) (nx per : Nat → Nat) (col : Nat → Int) : Prop :=
  ∀ u, u < m → isSt (col u) = true → 1 ≤ per u ∧ orb nx u (per u) = u ∧ (∀ t, 0 < t → t < per u → orb nx u t ≠ u) ∧ ∀ t, t ≤ per u → orb nx u t < m

structure AS (w : World) (b : Nat) (ty : TypeId) (S : Nat → Nat) (wr : World) : Prop where
  kept : Kept [b] w wr
  hS : wr.heap[b]? = some (.cells (words S) ty)
section
variable {w wr : World} {b bb bv n s m : Nat} {ty : TypeId} {S : Nat → Nat} {col : Nat → Int} {nx : Nat → Nat}
theorem AS.board (h : AS w b ty S wr) (hB : w.heap[bb]? = some (.cells (bBlk n s bv m) 41)) (hne : bb ≠ b) : wr.cell? ⟨bb, 2, none⟩ = some (.slice (some ⟨bv, 0, none⟩) m m) :=
  cell_of (by rw [h.kept.block _ (lt_of_heap hB) (by simpa using hne)]; exact hB) rfl
theorem AS.vs (h : AS w b ty S wr) (hv : VS w bv m col nx) (hne : bv ≠ b) : VS wr bv m col nx := hv.of_block (h.kept.block _ hv.lt (by simpa using hne))
theorem AS.add (h : AS w b ty S wr) {v : Nat} {x : Value} (hb : (wr.setCell ⟨b, v / 64, none⟩ x).heap[b]? = some (.cells (words (addS S v)) ty)) : AS w b ty (addS S v) (wr.setCell ⟨b, v / 64, none⟩ x) :=
  ⟨h.kept.setCell (.inl (by simp)) _, hb⟩
end

set_option maxRecDepth 100000 in
set_option maxHeartbeats 800000 in
theorem around_walk (bb bv n s m b v : Nat) (ty : TypeId) (S nx per : Nat → Nat) (col : Nat → Int) (w : World) (hB : w.heap[bb]? = some (.cells (bBlk n s bv m) 41)) (hV : VS w bv m col nx) (hS : w.heap[b]? = some (.cells (words S) ty)) (hF : Fits S)
    (hb1 : bb ≠ b) (hb2 : bv ≠ b) (hs : s ≤ 27) (hs1 : 1 ≤ s) (hv0 : s < v) (hv : v + s < m) (hm : m ≤ 729) (hcol : ∀ i, i < m → 0 ≤ col i ∧ col i ≤ 3) (hR : Rings m nx per col) :
    Calls Yba.prog 6 #[.pointer (some ⟨bb, 0, none⟩), .pointer (some ⟨b, 0, none⟩), .int .i16 v] w fun e w' => e = .returned (.tuple #[]) ∧ AS w b ty (addS (aroundT nx per col s v S 4) v) w' := by
  have hst : w.cell? ⟨bb, 1, none⟩ = some (.int .i64 s) := cell_of hB rfl
  have A0 := hide (AS.mk (Kept.refl [b] w) hS)
  have HB := hide hB
  have HV := hide hV
  clear hB hV hS
  go_enter Yba.func6, Yba.ntmps6
  go_wp2_with fail
  refine (neigh_any bb s v _ hst hs hv0 (by omega) hs1).mono ?_
  rintro e wn ⟨rfl, hbn⟩
  have A1 : Hid (AS w b ty S wn) := ⟨Kept.of_below hbn, by rw [hbn.block _ (lt_of_heap A0.out.hS)]; exact A0.out.hS⟩
  clear A0 hbn hst
  obtain ⟨arr, harr⟩ : ∃ arr : Array Value, arr = #[.int .i16 ((v : Int) - 1), .int .i16 ((v : Int) + 1), .int .i16 ((v : Int) - s), .int .i16 ((v : Int) + s)] := ⟨_, rfl⟩
  have hat : ∀ i, i < 4 → ∀ w : World, (Instr.index 49 (.agg arr) (.int .i64 (i : Nat))).run Yba.prog w = .ok (.int .i16 (nbv s v i)) w := by
    intro i hi w'
    subst harr
    have e1 : ((v - 1 : Nat) : Int) = v - 1 := by omega
    have e2 : ((v - s : Nat) : Int) = v - s := by omega
    have h4 := idx49 (.int .i16 ((v : Int) - 1)) (.int .i16 ((v : Int) + 1)) (.int .i16 ((v : Int) - s)) (.int .i16 ((v : Int) + s)) w'
    have : i = 0 ∨ i = 1 ∨ i = 2 ∨ i = 3 := by omega
    rcases this with rfl | rfl | rfl | rfl
    · simp only [nbv, e1]; exact h4.1
    · exact h4.2.1
    · simp only [nbv, e2]; exact h4.2.2.1
    · exact h4.2.2.2
  have HAT := hide hat
  clear hat
  rw [← harr]
  clear harr
  go_wp2
  go_loopg [12] 4 (fun g s12 wr => ∃ i : Nat, i ≤ 4 ∧ g = 4 - i ∧ s12 = .int .i64 i ∧ AS w b ty (aroundT nx per col s v S i) wr)
  case atStart => exact ⟨0, by omega, rfl, rfl, A1.out⟩
  case round =>
    obtain ⟨i, hi, rfl, rfl, ha⟩ := hrel
    clear A1
    have AR := hide ha
    clear ha
    by_cases hi4 : i < 4
    · have hai := HAT.out i hi4
      obtain ⟨u, hu⟩ : ∃ u, u = nbv s v i := ⟨_, rfl⟩
      rw [← hu] at hai
      have hum : u < m := by
        have : i = 0 ∨ i = 1 ∨ i = 2 ∨ i = 3 := by omega
        rcases this with rfl | rfl | rfl | rfl <;> simp only [nbv] at hu <;> omega
      have HSTEP : Hid (aroundT nx per col s v S (i + 1) = stepS nx per col (aroundT nx per col s v S i) u) := by rw [hu]; rfl
      obtain ⟨T, hT⟩ : ∃ T, T = aroundT nx per col s v S i := ⟨_, rfl⟩
      have hTF : Fits T := by rw [hT]; exact around_fits hF i
      rw [← hT] at AR HSTEP
      have HTF := hide hTF
      clear hu hT hTF
      have hvb := AR.out.board HB.out hb1
      have hcu := (AR.out.vs HV.out hb2).colour hum
      have hcb := hcol u hum
      have HRU := hide (hR u hum)
      obtain ⟨cu, hcu2⟩ : ∃ cu, cu = col u := ⟨_, rfl⟩
      rw [← hcu2] at hcu hcb HRU
      obtain ⟨hcb0, hcb1⟩ := hcb
      have HCU := hide hcu2
      clear hcu2
      cases hst : isSt cu with
      | false =>
        have HSN : Hid (aroundT nx per col s v S (i + 1) = T) := hide (by
          rw [HSTEP.out]; unfold stepS; rw [← HCU.out, hst]; simp)
        have HST := hide hst
        clear hst
        go_wp2_with (go_at_call 11; refine (stone_any cu _ hcb0 hcb1).mono ?_; rw [show decide (cu = 1 ∨ cu = 2) = false from HST.out]; rintro e w' ⟨rfl, rfl⟩)
        go_roundg (4 - (i + 1))
        case measure => omega
        case rel => exact ⟨i + 1, by omega, rfl, by go_num, by rw [HSN.out]; exact AR.out⟩
      | true =>
        cases hmu : mem T u with
        | true =>
          have HSN : Hid (aroundT nx per col s v S (i + 1) = T) := hide (by
            rw [HSTEP.out]; unfold stepS; rw [← HCU.out, hst, hmu]; simp)
          have HST := hide hst
          have HMU := hide hmu
          clear hst hmu
          go_wp2_with (first | (go_at_call 11; refine (stone_any cu _ hcb0 hcb1).mono ?_; rw [show decide (cu = 1 ∨ cu = 2) = true from HST.out]; rintro e w' ⟨rfl, rfl⟩) | (go_at_call 12; refine (has_any b u ty T _ (by omega) HTF.out AR.out.hS).mono ?_; rw [HMU.out]; rintro e w' ⟨rfl, rfl⟩))
          go_roundg (4 - (i + 1))
          case measure => omega
          case rel => exact ⟨i + 1, by omega, rfl, by go_num, by rw [HSN.out]; exact AR.out⟩
        | false =>
          have HSN : Hid (aroundT nx per col s v S (i + 1) = addOrb nx T u (per u)) := hide (by
            rw [HSTEP.out]; unfold stepS; rw [← HCU.out, hst, hmu]; simp)
          have hring := HRU.out hst
          have HST := hide hst
          have HMU := hide hmu
          clear hst hmu
          go_upto_if 29 with (first | (go_at_call 11; refine (stone_any cu _ hcb0 hcb1).mono ?_; rw [show decide (cu = 1 ∨ cu = 2) = true from HST.out]; rintro e w' ⟨rfl, rfl⟩) | (go_at_call 12; refine (has_any b u ty T _ (by omega) HTF.out AR.out.hS).mono ?_; rw [HMU.out]; rintro e w' ⟨rfl, rfl⟩))
          obtain ⟨P, hP⟩ : ∃ P, P = per u := ⟨_, rfl⟩
          rw [← hP] at hring HSN
          obtain ⟨hP1, hP2, hP3, hP4⟩ := hring
          have HP2 := hide hP2
          have HP3 := hide hP3
          have HP4 := hide hP4
          clear hP hP2 hP3 hP4 hcu hai
          go_wp2_with fail
          go_loopg [8] P (fun g s8 wr => ∃ t : Nat, t < P ∧ g = P - t ∧ s8 = .int .i16 (orb nx u t) ∧ AS w b ty (addOrb nx T u t) wr)
          case atStart => exact ⟨0, by omega, rfl, rfl, AR.out⟩
          case round =>
            obtain ⟨t, ht, rfl, rfl, ha⟩ := hrel
            clear AR
            have AR := hide ha
            clear ha
            have hom := HP4.out t (by omega)
            have hom1 := HP4.out (t + 1) (by omega)
            have HN : Hid (nx (orb nx u t) = orb nx u (t + 1)) := hide rfl
            have HA : Hid (addS (addOrb nx T u t) (orb nx u t) = addOrb nx T u (t + 1)) := hide rfl
            have HE : Hid (orb nx u (t + 1) = u ↔ t + 1 = P) := hide ⟨fun e => by
              rcases Nat.lt_or_ge (t + 1) P with hl | hl
              · exact absurd e (HP3.out _ (by omega) hl)
              · omega, fun e => by rw [e]; exact HP2.out⟩
            obtain ⟨x, hx⟩ : ∃ x, x = orb nx u t := ⟨_, rfl⟩
            obtain ⟨y, hy⟩ : ∃ y, y = orb nx u (t + 1) := ⟨_, rfl⟩
            rw [← hx] at hom HN HA
            rw [← hy] at hom1 HN HE
            rw [← hx]
            have HY := hide hy
            clear hx hy hvb
            go_wp2_with fail
            refine (add_any b x ty _ _ (by omega) (addOrb_fits HTF.out u t) AR.out.hS).mono ?_
            rintro e w' ⟨rfl, z, hw', hb'⟩
            have A2 : Hid (AS w b ty (addOrb nx T u (t + 1)) w') := by subst hw'; rw [← HA.out]; exact AR.out.add hb'
            clear hw' hb'
            have hvb := A2.out.board HB.out hb1
            have hnx := (A2.out.vs HV.out hb2).next hom
            rw [HN.out] at hnx
            by_cases hyu : y = u
            · have htp := HE.out.1 hyu
              have heq : ((y : Int) == (u : Int)) = true := by simp [hyu]
              have HYU := hide hyu
              clear hyu
              go_wp2
              go_roundg (4 - (i + 1))
              case measure => omega
              case rel => exact ⟨i + 1, by omega, rfl, by go_num, by rw [HSN.out, ← htp]; exact A2.out⟩
            · have htp : t + 1 ≠ P := fun e => hyu (HE.out.2 e)
              have heq : ((y : Int) == (u : Int)) = false := by simp; omega
              have HYU := hide hyu
              clear hyu
              go_wp2
              go_roundg (P - (t + 1))
              case measure => omega
              case rel => exact ⟨t + 1, by omega, rfl, by rw [HY.out], A2.out⟩
    · go_wp2_with (go_at_call 13; refine (add_any b v ty _ _ (by omega) (around_fits hF _) AR.out.hS).mono ?_; rintro e w' ⟨rfl, x, rfl, hb'⟩)
      go_end0
      obtain rfl : i = 4 := by omega
      exact ⟨rfl, AR.out.add hb'⟩
end Go.Proofs.Ybulkabri
