import Derived.Test.YbulkabmmHeld
import Derived.Deep.Cut
import Derived.Deep.CutRange
import Derived.Deep.WholeRow
namespace Go.Proofs.Ybulkabmm
open Go.RowKit

set_option maxRecDepth 100000 in
set_option maxHeartbeats 400000 in
theorem aop_any (sel raw : Int) (w : World) (h0 : 0 ≤ sel) (h1 : sel ≤ 255) : Calls Yba.prog 7 #[.int .u8 sel, .int .u8 raw] w fun e w' => ∃ op : Int, e = .returned (.int .u8 op) ∧ w' = w := by
  go_enter Yba.func7, Yba.ntmps7
  go_wp2
  all_goals
    go_ret
    exact ⟨_, rfl, rfl⟩

/-- An event's cells. -/
def evC (op kd n : Int) (nl : Bool) : Array Value := #[.int .u64 0, .int .u64 0, .int .u8 op, .int .u8 kd, .int .u64 n, .string ⟨#[]⟩, .int .i64 0, .int .u8 0, .int .i64 0, .int .u64 0, .int .i64 0, .int .i64 0, .int .u64 0, .int .u64 0, .string ⟨#[]⟩, .string ⟨#[]⟩, .int .u64 0, .bool false, .bool nl, .bool false, .bool false]
theorem setRow_at (w : World) (n : Nat) (c c' : Array Value) (t : TypeId) (h : n = w.heap.size) : (w.alloc (.cells c t)).setRow n c' = w.alloc (.cells c' t) := by
  subst h; exact World.setRow_alloc_new w c c' t
theorem heap_new (w : World) (o : Obj) : (w.alloc o).heap[w.heap.size]? = some o := (MapKept.heap_alloc w o).1
theorem heap_at (w : World) (o : Obj) (n : Nat) (h : n = w.heap.size) : (w.alloc o).heap[n]? = some o := by subst h; exact heap_new w o

theorem evC_one (op kd n : Int) (nl : Bool) : (evC op kd n nl).all (·.oneCell') = true := by simp [evC, Value.oneCell']
theorem built_ev (op : Int) (nl : Bool) : Yba.prog.built 30 [(2, .int .u8 op), (3, .agg #[.int .u8 109, .int .u64 1]), (17, .bool nl)] = some (evC op 109 1 nl) := by kernel_rfl
theorem ev_build {ops : Array Oper} {rest : List Oper} {o : Oper} {a : Act} {w : World} {Q : Exit → Act → World → Prop} (op : Int) (nl : Bool) (hg : o.guard = none) (ho : o.op = .build 30 #[(2, .tmp 28), (3, .tmp 29), (17, .tmp 30)])
    (h1 : a.eval (.tmp 28) = .int .u8 op) (h2 : a.eval (.tmp 29) = .agg #[.int .u8 109, .int .u64 1]) (h3 : a.eval (.tmp 30) = .bool nl)
    (h : wpList Yba.prog ops Q rest (a.put o.dst (.agg (evC op 109 1 nl))) w) : wpList Yba.prog ops Q (o :: rest) a w := by
  have e : (Array.map (fun x : Nat × Operand => (x.1, a.eval x.2)) #[(2, .tmp 28), (3, .tmp 29), (17, .tmp 30)]).toList = [(2, .int .u8 op), (3, .agg #[.int .u8 109, .int .u64 1]), (17, .bool nl)] := by
    simp [h1, h2, h3]
  refine wpList_build hg 30 _ ho ?_ ?_
  · rw [e, built_ev]; rfl
  · rw [e, built_ev]; exact h

section
variable (a0 : Bool) (a1 a2 a3 a4 a6 : Int) (w : World)
set_option maxRecDepth 100000 in
set_option maxHeartbeats 1600000 in
theorem exact_walk (a5 : Bool) (h0 : 0 ≤ a3) (h1 : a3 ≤ 255) :
    Calls Yba.prog 3 #[.bool a0, .int .i64 a1, .int .i64 a2, .int .u8 a3, .int .u8 a4, .bool a5, .int .i64 a6] w fun e w' => e = .returned (.bool true) ∧ Below w.heap.size w w' := by
  go_enter Yba.func3, Yba.ntmps3
  go_upto_region 3 with (go_at_call 7; refine (aop_any a3 a4 _ h0 h1).mono ?_; rintro e w' ⟨op, rfl, rfl⟩)
  go_cut [17] from 21 to 31 (fun p wx => p = .pointer (some ⟨w'.heap.size + 1, 0, none⟩) ∧ wx = (w'.alloc (.cells #[.bool a0, .int .i64 a1, .int .i64 a2] 25)).alloc (.cells (evC op 109 1 a5) 30))
  case first =>
    go_wp2_with first | (refine ev_build op a5 rfl rfl rfl rfl rfl ?_; simp only [Act.put, List.setIfInBounds_toArray, List.set_cons_succ, List.set_cons_zero]) | (refine wpList_store_row rfl 30 (.tmp 17) (.tmp 31) rfl (w'.heap.size + 1) (evC op 109 1 a5) rfl rfl 30 _ (heap_at _ _ _ (by simp)) (by kernel_rfl) rfl (evC_one _ _ _ _) ?_; rw [setRow_at _ _ _ _ _ (by simp)])
    go_meet
    case rel => exact ⟨rfl, rfl⟩
  case rest =>
    obtain ⟨rfl, rfl⟩ := hcut
    clear h0 h1
    cases a5 with
    | true =>
      go_wp2_with (refine wpList_load_row rfl 30 (.tmp 17) rfl (w'.heap.size + 1) rfl 30 (evC op 109 1 true) (0, 0) _ (heap_at _ _ _ (by simp)) Yba.underlying30 rfl (by kernel_rfl) ?_)
      refine (next_nl a0 a1 a2 op 109 1 a6 _).mono ?_
      rintro e w1 ⟨rfl, hb⟩
      obtain ⟨hc, hf⟩ := bcell hb
      have c0 : w1.cell? ⟨w'.heap.size, 0, none⟩ = some (.bool a0) := by rw [hc _ _ (by simp; omega)]; simp [go_sem]
      have c1 : w1.cell? ⟨w'.heap.size, 1, none⟩ = some (.int .i64 a1) := by rw [hc _ _ (by simp; omega)]; simp [go_sem]
      have c2 : w1.cell? ⟨w'.heap.size, 2, none⟩ = some (.int .i64 a2) := by rw [hc _ _ (by simp; omega)]; simp [go_sem]
      have s1 : w'.heap.size < w1.heap.size := by have := hb.size; simp at this; omega
      have B1 : Hid (Below w'.heap.size w' w1) := (((Below.refl _ _).alloc (Nat.le_refl _) _).alloc (by simp) _).trans (hb.mono (by simp; omega))
      clear hc hf hb
      go_wp2
      go_ret
      exact ⟨by simp, (B1.out.alloc (by omega) _).alloc (by simp; omega) _⟩
    | false =>
      by_cases h11 : op = 11
      · subst h11
        go_wp2_with (refine wpList_load_row rfl 30 (.tmp 17) rfl (w'.heap.size + 1) rfl 30 (evC 11 109 1 false) (0, 0) _ (heap_at _ _ _ (by simp)) Yba.underlying30 rfl (by kernel_rfl) ?_)
        refine (next_lock a0 a1 a2 109 1 a6 _).mono ?_
        rintro e w1 ⟨rfl, hb⟩
        obtain ⟨hc, hf⟩ := bcell hb
        have c0 : w1.cell? ⟨w'.heap.size, 0, none⟩ = some (.bool a0) := by rw [hc _ _ (by simp; omega)]; simp [go_sem]
        have c1 : w1.cell? ⟨w'.heap.size, 1, none⟩ = some (.int .i64 a1) := by rw [hc _ _ (by simp; omega)]; simp [go_sem]
        have c2 : w1.cell? ⟨w'.heap.size, 2, none⟩ = some (.int .i64 a2) := by rw [hc _ _ (by simp; omega)]; simp [go_sem]
        have s1 : w'.heap.size < w1.heap.size := by have := hb.size; simp at this; omega
        have B1 : Hid (Below w'.heap.size w' w1) := (((Below.refl _ _).alloc (Nat.le_refl _) _).alloc (by simp) _).trans (hb.mono (by simp; omega))
        clear hc hf hb
        go_wp2
        go_ret
        exact ⟨by simp, (B1.out.alloc (by omega) _).alloc (by simp; omega) _⟩
      by_cases h13 : op = 13
      · subst h13
        go_wp2_with (refine wpList_load_row rfl 30 (.tmp 17) rfl (w'.heap.size + 1) rfl 30 (evC 13 109 1 false) (0, 0) _ (heap_at _ _ _ (by simp)) Yba.underlying30 rfl (by kernel_rfl) ?_)
        refine (next_rlock a0 a1 a2 109 1 a6 _).mono ?_
        rintro e w1 ⟨rfl, hb⟩
        obtain ⟨hc, hf⟩ := bcell hb
        have c0 : w1.cell? ⟨w'.heap.size, 0, none⟩ = some (.bool a0) := by rw [hc _ _ (by simp; omega)]; simp [go_sem]
        have c1 : w1.cell? ⟨w'.heap.size, 1, none⟩ = some (.int .i64 a1) := by rw [hc _ _ (by simp; omega)]; simp [go_sem]
        have c2 : w1.cell? ⟨w'.heap.size, 2, none⟩ = some (.int .i64 a2) := by rw [hc _ _ (by simp; omega)]; simp [go_sem]
        have s1 : w'.heap.size < w1.heap.size := by have := hb.size; simp at this; omega
        have B1 : Hid (Below w'.heap.size w' w1) := (((Below.refl _ _).alloc (Nat.le_refl _) _).alloc (by simp) _).trans (hb.mono (by simp; omega))
        clear hc hf hb
        go_wp2
        go_ret
        exact ⟨by simp, (B1.out.alloc (by omega) _).alloc (by simp; omega) _⟩
      by_cases h12 : op = 12
      · subst h12
        go_wp2_with (refine wpList_load_row rfl 30 (.tmp 17) rfl (w'.heap.size + 1) rfl 30 (evC 12 109 1 false) (0, 0) _ (heap_at _ _ _ (by simp)) Yba.underlying30 rfl (by kernel_rfl) ?_)
        refine (next_unlock a0 a1 a2 109 1 a6 _).mono ?_
        rintro e w1 ⟨rfl, hb⟩
        obtain ⟨hc, hf⟩ := bcell hb
        have c0 : w1.cell? ⟨w'.heap.size, 0, none⟩ = some (.bool a0) := by rw [hc _ _ (by simp; omega)]; simp [go_sem]
        have c1 : w1.cell? ⟨w'.heap.size, 1, none⟩ = some (.int .i64 a1) := by rw [hc _ _ (by simp; omega)]; simp [go_sem]
        have c2 : w1.cell? ⟨w'.heap.size, 2, none⟩ = some (.int .i64 a2) := by rw [hc _ _ (by simp; omega)]; simp [go_sem]
        have s1 : w'.heap.size < w1.heap.size := by have := hb.size; simp at this; omega
        have B1 : Hid (Below w'.heap.size w' w1) := (((Below.refl _ _).alloc (Nat.le_refl _) _).alloc (by simp) _).trans (hb.mono (by simp; omega))
        clear hc hf hb
        go_wp2
        go_ret
        exact ⟨by simp, (B1.out.alloc (by omega) _).alloc (by simp; omega) _⟩
      by_cases h14 : op = 14
      · subst h14
        by_cases hn : wrap64 (a2 - 1) < 0
        · go_wp2_with (refine wpList_load_row rfl 30 (.tmp 17) rfl (w'.heap.size + 1) rfl 30 (evC 14 109 1 false) (0, 0) _ (heap_at _ _ _ (by simp)) Yba.underlying30 rfl (by kernel_rfl) ?_)
          refine (next_runlock_neg a0 a1 a2 109 1 a6 _ hn).mono ?_
          rintro e w1 ⟨rfl, hb⟩
          obtain ⟨hc, hf⟩ := bcell hb
          have c0 : w1.cell? ⟨w'.heap.size, 0, none⟩ = some (.bool a0) := by rw [hc _ _ (by simp; omega)]; simp [go_sem]
          have c1 : w1.cell? ⟨w'.heap.size, 1, none⟩ = some (.int .i64 a1) := by rw [hc _ _ (by simp; omega)]; simp [go_sem]
          have c2 : w1.cell? ⟨w'.heap.size, 2, none⟩ = some (.int .i64 a2) := by rw [hc _ _ (by simp; omega)]; simp [go_sem]
          have s1 : w'.heap.size < w1.heap.size := by have := hb.size; simp at this; omega
          have B1 : Hid (Below w'.heap.size w' w1) := (((Below.refl _ _).alloc (Nat.le_refl _) _).alloc (by simp) _).trans (hb.mono (by simp; omega))
          clear hc hf hb
          go_wp2
          go_ret
          exact ⟨by simp, (B1.out.alloc (by omega) _).alloc (by simp; omega) _⟩
        · go_wp2_with (refine wpList_load_row rfl 30 (.tmp 17) rfl (w'.heap.size + 1) rfl 30 (evC 14 109 1 false) (0, 0) _ (heap_at _ _ _ (by simp)) Yba.underlying30 rfl (by kernel_rfl) ?_)
          refine (next_runlock_pos a0 a1 a2 109 1 a6 _ (by omega)).mono ?_
          rintro e w1 ⟨rfl, hb⟩
          obtain ⟨hc, hf⟩ := bcell hb
          have c0 : w1.cell? ⟨w'.heap.size, 0, none⟩ = some (.bool a0) := by rw [hc _ _ (by simp; omega)]; simp [go_sem]
          have c1 : w1.cell? ⟨w'.heap.size, 1, none⟩ = some (.int .i64 a1) := by rw [hc _ _ (by simp; omega)]; simp [go_sem]
          have c2 : w1.cell? ⟨w'.heap.size, 2, none⟩ = some (.int .i64 a2) := by rw [hc _ _ (by simp; omega)]; simp [go_sem]
          have s1 : w'.heap.size < w1.heap.size := by have := hb.size; simp at this; omega
          have B1 : Hid (Below w'.heap.size w' w1) := (((Below.refl _ _).alloc (Nat.le_refl _) _).alloc (by simp) _).trans (hb.mono (by simp; omega))
          clear hc hf hb
          go_wp2
          go_ret
          exact ⟨by simp, (B1.out.alloc (by omega) _).alloc (by simp; omega) _⟩
      have b11 : (op == 11) = false := by simpa using h11
      have b13 : (op == 13) = false := by simpa using h13
      have b12 : (op == 12) = false := by simpa using h12
      have b14 : (op == 14) = false := by simpa using h14
      clear h11 h12 h13 h14
      go_wp2_with (refine wpList_load_row rfl 30 (.tmp 17) rfl (w'.heap.size + 1) rfl 30 (evC op 109 1 false) (0, 0) _ (heap_at _ _ _ (by simp)) Yba.underlying30 rfl (by kernel_rfl) ?_)
      refine (next_other a0 a1 a2 op 109 1 a6 _ b11 b13 b12 b14).mono ?_
      rintro e w1 ⟨rfl, hb⟩
      obtain ⟨hc, hf⟩ := bcell hb
      have c0 : w1.cell? ⟨w'.heap.size, 0, none⟩ = some (.bool a0) := by rw [hc _ _ (by simp; omega)]; simp [go_sem]
      have c1 : w1.cell? ⟨w'.heap.size, 1, none⟩ = some (.int .i64 a1) := by rw [hc _ _ (by simp; omega)]; simp [go_sem]
      have c2 : w1.cell? ⟨w'.heap.size, 2, none⟩ = some (.int .i64 a2) := by rw [hc _ _ (by simp; omega)]; simp [go_sem]
      have s1 : w'.heap.size < w1.heap.size := by have := hb.size; simp at this; omega
      have B1 : Hid (Below w'.heap.size w' w1) := (((Below.refl _ _).alloc (Nat.le_refl _) _).alloc (by simp) _).trans (hb.mono (by simp; omega))
      clear hc hf hb
      go_wp2
      go_ret
      exact ⟨by simp, (B1.out.alloc (by omega) _).alloc (by simp; omega) _⟩
end
end Go.Proofs.Ybulkabmm
