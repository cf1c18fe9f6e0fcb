/-
  The board in memory: a struct (block bb) and its row of vertices (block bv), nine cells a vertex: colour at 9 i, next at 9 i + 2.
-/
import Derived.Test.YbulkabriCells
namespace Go.Proofs.Ybulkabri
open Go.RowKit

def bBlk (n s bv m : Nat) : Array Value := #[.int .i64 n, .int .i64 s, .slice (some ⟨bv, 0, none⟩) m m, .slice none 0 0, .int .u64 0, .int .i64 0, .int .i64 0, .int .i64 0, .int .u64 0, .int .u64 0, .int .u64 0, .int .u64 0, .int .u64 0, .int .u64 0, .int .u64 0, .int .u64 0, .int .u64 0, .int .u64 0, .int .u64 0, .int .u64 0, .int .u64 0, .int .u64 0, .int .u64 0, .int .u64 0, .bool false, .int .i16 0, .int .i8 0, .int .i64 0, .int .i16 0]
def vZero : Array Value := #[.int .i8 0, .int .i16 0, .int .i16 0, .int .i16 0, .int .u32 0, .int .i16 0, .int .i16 0, .int .i32 0, .int .i32 0]

def VS (wr : World) (bv m : Nat) (col : Nat → Int) (nxt : Nat → Nat) : Prop :=
  ∃ A : Array Value, wr.heap[bv]? = some (.cells A 46) ∧ A.size = 9 * m ∧ ∀ i, i < m → A[i * 9]? = some (.int .i8 (col i)) ∧ A[i * 9 + 2]? = some (.int .i16 (nxt i))

section
variable {wr w' : World} {bv m : Nat} {col : Nat → Int} {nxt : Nat → Nat}
theorem VS.congr (h : VS wr bv m col nxt) {col' : Nat → Int} {nxt' : Nat → Nat} (h1 : ∀ i, i < m → col i = col' i) (h2 : ∀ i, i < m → nxt i = nxt' i) : VS wr bv m col' nxt' := by
  obtain ⟨A, a, b, c⟩ := h
  exact ⟨A, a, b, fun i hi => by rw [← h1 i hi, ← h2 i hi]; exact c i hi⟩
theorem VS.of_block (h : VS wr bv m col nxt) (hb : w'.heap[bv]? = wr.heap[bv]?) : VS w' bv m col nxt := by
  obtain ⟨A, a, r⟩ := h
  exact ⟨A, by rw [hb]; exact a, r⟩
theorem VS.colour (h : VS wr bv m col nxt) {i : Nat} (hi : i < m) : wr.cell? ⟨bv, i * 9, none⟩ = some (.int .i8 (col i)) := by
  obtain ⟨A, a, b, c⟩ := h; exact cell_of a (c i hi).1
theorem VS.next (h : VS wr bv m col nxt) {i : Nat} (hi : i < m) : wr.cell? ⟨bv, i * 9 + 2, none⟩ = some (.int .i16 (nxt i)) := by
  obtain ⟨A, a, b, c⟩ := h; exact cell_of a (c i hi).2
theorem VS.fz (h : VS wr bv m col nxt) (o : Nat) : wr.frozen? ⟨bv, o, none⟩ = false := by
  obtain ⟨A, a, _⟩ := h; exact frozen_of a
theorem VS.lt (h : VS wr bv m col nxt) : bv < wr.heap.size := by obtain ⟨A, a, _⟩ := h; exact lt_of_heap a
theorem VS.setC (h : VS wr bv m col nxt) {i : Nat} (hi : i < m) (c : Int) : VS (wr.setCell ⟨bv, i * 9, none⟩ (.int .i8 c)) bv m (fun j => if j = i then c else col j) nxt := by
  obtain ⟨A, a, b, r⟩ := h
  refine ⟨_, heap_set _ a, by simpa using b, fun j hj => ⟨?_, ?_⟩⟩
  · by_cases e : j = i
    · subst e; rw [Array.getElem?_setIfInBounds_self_of_lt (by omega)]; simp
    · rw [Array.getElem?_setIfInBounds_ne (by omega)]; simp only [e, if_false]; exact (r j hj).1
  · rw [Array.getElem?_setIfInBounds_ne (by omega)]; exact (r j hj).2
theorem VS.setN (h : VS wr bv m col nxt) {i : Nat} (hi : i < m) (v : Nat) : VS (wr.setCell ⟨bv, i * 9 + 2, none⟩ (.int .i16 v)) bv m col (fun j => if j = i then v else nxt j) := by
  obtain ⟨A, a, b, r⟩ := h
  refine ⟨_, heap_set _ a, by simpa using b, fun j hj => ⟨?_, ?_⟩⟩
  · rw [Array.getElem?_setIfInBounds_ne (by omega)]; exact (r j hj).1
  · by_cases e : j = i
    · subst e; rw [Array.getElem?_setIfInBounds_self_of_lt (by omega)]; simp
    · rw [Array.getElem?_setIfInBounds_ne (by omega)]; simp only [e, if_false]; exact (r j hj).2
end
theorem made_at (m c : Nat) (h : c < 9 * m) : (madeCells vZero (m * 9))[c]? = vZero[c % 9]? := by
  have h2 : c < m * 9 := by omega
  have h9 : c % 9 = 0 ∨ c % 9 = 1 ∨ c % 9 = 2 ∨ c % 9 = 3 ∨ c % 9 = 4 ∨ c % 9 = 5 ∨ c % 9 = 6 ∨ c % 9 = 7 ∨ c % 9 = 8 := by omega
  have e : vZero.size = 9 := rfl
  simp only [madeCells, Array.getElem?_map, Array.getElem?_range, h2, if_true, Option.map_some, e]
  rcases h9 with h | h | h | h | h | h | h | h | h <;> rw [h] <;> rfl
theorem VS.made (w : World) (m : Nat) : VS (w.alloc (.cells (madeCells vZero (m * 9)) 46)) w.heap.size m (fun _ => 0) (fun _ => 0) := by
  refine ⟨_, (MapKept.heap_alloc w _).1, by rw [size_madeCells]; omega, fun i hi => ⟨?_, ?_⟩⟩
  · rw [made_at m _ (by omega), show i * 9 % 9 = 0 by omega]; rfl
  · rw [made_at m _ (by omega), show (i * 9 + 2) % 9 = 2 by omega]; rfl

theorem Yba.info46 : (Yba.prog.info? 46).map (fun i => (i.zero, i.size, i.bytes)) = some (some (.agg vZero), 9, 24) := by kernel_rfl
theorem mk35 (m : Nat) (hm : m ≤ 100000) (w : World) : (Instr.makeSlice 35 (.int .i64 m) (.int .i64 m)).run Yba.prog w = .ok (.slice (some ⟨w.heap.size, 0, none⟩) m m) (w.alloc (.cells (madeCells vZero (m * 9)) 46)) := by
  obtain ⟨i, hi, hzz⟩ := Option.map_eq_some_iff.1 Yba.info46
  simp only [Prod.mk.injEq] at hzz
  obtain ⟨hz, hs, hb⟩ := hzz
  have hr := run_make (P := Yba.prog) w 35 46 i (.agg vZero) Yba.underlying35 hi hz .i64 .i64 m m (by omega) (Int.le_refl _) (by rw [hb]; omega) (by omega)
  simp only [Int.toNat_natCast, hs, Value.cells] at hr
  exact hr

/-- The board: its struct, its vertices, nothing old turned. -/
structure BD (w : World) (bb bv n s m : Nat) (col : Nat → Int) (nxt : Nat → Nat) (wr : World) : Prop where
  hB : wr.heap[bb]? = some (.cells (bBlk n s bv m) 41)
  vs : VS wr bv m col nxt
  below : Below w.heap.size w wr
  hbv : w.heap.size ≤ bv
section
variable {w wr w' : World} {bb bv n s m : Nat} {col : Nat → Int} {nxt : Nat → Nat}
theorem BD.apart (h : BD w bb bv n s m col nxt wr) : bb ≠ bv := by
  rintro rfl
  obtain ⟨A, a, b, r⟩ := h.vs
  rw [h.hB] at a; cases a
theorem BD.stride (h : BD w bb bv n s m col nxt wr) : wr.cell? ⟨bb, 1, none⟩ = some (.int .i64 s) := cell_of h.hB rfl
theorem BD.verts (h : BD w bb bv n s m col nxt wr) : wr.cell? ⟨bb, 2, none⟩ = some (.slice (some ⟨bv, 0, none⟩) m m) := cell_of h.hB rfl
theorem BD.setC (h : BD w bb bv n s m col nxt wr) {i : Nat} (hi : i < m) (c : Int) : BD w bb bv n s m (fun j => if j = i then c else col j) nxt (wr.setCell ⟨bv, i * 9, none⟩ (.int .i8 c)) :=
  ⟨by rw [Below.heap_setCell _ _ _ _ h.apart]; exact h.hB, h.vs.setC hi c, h.below.setCell h.hbv _, h.hbv⟩
theorem BD.setN (h : BD w bb bv n s m col nxt wr) {i : Nat} (hi : i < m) (v : Nat) : BD w bb bv n s m col (fun j => if j = i then v else nxt j) (wr.setCell ⟨bv, i * 9 + 2, none⟩ (.int .i16 v)) :=
  ⟨by rw [Below.heap_setCell _ _ _ _ h.apart]; exact h.hB, h.vs.setN hi v, h.below.setCell h.hbv _, h.hbv⟩
theorem BD.drew (h : BD w bb bv n s m col nxt wr) : BD w bb bv n s m col nxt wr.drew := ⟨h.hB, h.vs, h.below.drew, h.hbv⟩
theorem BD.congr (h : BD w bb bv n s m col nxt wr) {col' : Nat → Int} {nxt' : Nat → Nat} (h1 : ∀ i, i < m → col i = col' i) (h2 : ∀ i, i < m → nxt i = nxt' i) : BD w bb bv n s m col' nxt' wr := ⟨h.hB, h.vs.congr h1 h2, h.below, h.hbv⟩
end
theorem BD.start (w : World) (n s m : Nat) : BD w (w.heap.size + 1) w.heap.size n s m (fun _ => 0) (fun _ => 0) ((w.alloc (.cells (madeCells vZero (m * 9)) 46)).alloc (.cells (bBlk n s w.heap.size m) 41)) := by
  refine ⟨?_, (VS.made w m).of_block (Below.heap_alloc _ _ _ (by simp)), ((Below.refl _ _).alloc (Nat.le_refl _) _).alloc (by simp) _, Nat.le_refl _⟩
  have := (MapKept.heap_alloc (w.alloc (.cells (madeCells vZero (m * 9)) 46)) (.cells (bBlk n s w.heap.size m) 41)).1
  simpa only [World.size_alloc] using this
end Go.Proofs.Ybulkabri
