import Derived.Test.YbulkablyDeliver
namespace Go.Proofs.Ybulkably
open Go.Conc Go.RowKit

set_option maxRecDepth 100000 in
set_option maxHeartbeats 400000 in
theorem receive_no (b ci : Nat) (k c : Int) (w : World) (hC : w.heap[b]? = some (.cells #[.int .i64 k, .int .i64 c] 59)) (hc0 : 0 ≤ c) (hc1 : c ≤ 100000) (hle : k < c + 1) :
    Calls Yba.prog 11 #[.iface 57 (.pointer (some ⟨b, 0, none⟩)), .chan (some ci)] w fun e w' => ∃ p, e = .returned (.tuple #[.agg #[.int .i64 0, .nilIface], .bool false, .iface 61 (.pointer p)]) ∧ w'.heap[b]? = some (.cells #[.int .i64 k, .int .i64 (c + 1)] 59) ∧ Kept [b] w w' := by
  have hm := m_err
  have hl := lt_of_heap hC
  have HC : Hid (w.heap[b]? = some (.cells #[.int .i64 k, .int .i64 c] 59)) := hC
  clear hC
  go_enter Yba.func11, Yba.ntmps11
  go_wp2_with fail
  refine (err_done b k c _ ?_ hc0 hc1 hle).mono ?_
  · rw [Below.heap_alloc _ _ _ hl]; exact HC.out
  rintro e w' ⟨p, rfl, hC', hk⟩
  have hR : w'.heap[w.heap.size]? = some (.cells #[.int .i64 0, .nilIface] 29) := by
    rw [hk.block _ (by simp) (by simp; omega)]; exact heap_alloc_new w _
  have g0 := cell_of (o := 0) hR (v := .int .i64 0) rfl
  have g1 := cell_of (o := 1) hR (v := .nilIface) rfl
  have f0 := frozen_of (o := 0) hR
  have f1 := frozen_of (o := 1) hR
  have HR : Hid (w'.heap[w.heap.size]? = some (.cells #[.int .i64 0, .nilIface] 29)) := hR
  have HC' : Hid (w'.heap[b]? = some (.cells #[.int .i64 k, .int .i64 (c + 1)] 59)) := hC'
  have HK : Hid (Kept [b] (w.alloc (.cells #[.int .i64 0, .nilIface] 29)) w') := hk
  clear hC' hk hR
  go_wp2_with fail
  refine bodyPost_ret (v := .tuple #[.agg #[.int .i64 0, .nilIface], .bool false, .iface 61 (.pointer p)]) (by simp [results, Yba.results11, go_sem, (two_set (.int .i64 0) .nilIface g0 g1).1, (two_set (.int .i64 0) .nilIface g0 g1).2]) rfl ⟨p, rfl, ?_, ?_⟩
  · rw [Below.heap_setCell _ _ _ _ (by simp; omega), Below.heap_setCell _ _ _ _ (by simp; omega)]
    exact HC'.out
  · exact (((((Kept.refl _ _).alloc _).trans HK.out).setCell (.inr (by simp)) _).setCell (.inr (by simp)) _)

theorem res_rr0 (a : Nat) (z z' v : Value) (ok : Bool) : commResult #[rcase a z, nilCase z'] .select ((0 : Nat) : Int) v ok = .tuple #[goInt 0, .bool ok, v, z'] := by
  simp [commResult, nilCase, rcase, List.zipIdx_cons]

set_option maxRecDepth 100000 in
set_option maxHeartbeats 800000 in
theorem receive_val (b ci : Nat) (k c : Int) (x er : Value) (hx : x.oneCell' = true) (her : er.oneCell' = true) (w : World) {cap s r : Nat} {buf : Array Value} {closed : Bool} (hC : w.heap[b]? = some (.cells #[.int .i64 k, .int .i64 c] 59)) (hI : w.heap[ci]? = some (.chan cap buf closed s r false))
    (hsome : 0 < buf.size) (h0 : buf.getD 0 undef = .agg #[x, er]) (hc0 : 0 ≤ c) (hc1 : c ≤ 100000) (hle : c + 1 ≤ k) :
    Calls Yba.prog 11 #[.iface 57 (.pointer (some ⟨b, 0, none⟩)), .chan (some ci)] w fun e w' => e = .returned (.tuple #[.agg #[x, er], .bool true, .nilIface]) ∧ w'.heap[b]? = some (.cells #[.int .i64 k, .int .i64 (c + 1)] 59) ∧
      w'.heap[ci]? = some (.chan cap (buf.extract 1 buf.size) closed s (r + 1) false) ∧ Kept [b, ci] w w' := by
  have hm := m_err
  have hd := m_done
  have hsx := fun (w : World) (a : Addr) (m : Mode) => run_store Yba.prog w a x m hx
  have hse := fun (w : World) (a : Addr) (m : Mode) => run_store Yba.prog w a er m her
  have hl := lt_of_heap hC
  have hl2 := lt_of_heap hI
  have hne : b ≠ ci := fun e => by rw [e, hI] at hC; cases hC
  have HC : Hid (w.heap[b]? = some (.cells #[.int .i64 k, .int .i64 c] 59)) := hC
  have HI : Hid (w.heap[ci]? = some (.chan cap buf closed s r false)) := hI
  clear hC hI
  have H0 : Hid (buf.getD 0 undef = .agg #[x, er]) := h0
  clear h0
  go_enter Yba.func11, Yba.ntmps11
  go_wp2_with fail
  refine (err_ok b k c _ ?_ hc0 hc1 hle).mono ?_
  · rw [Below.heap_alloc _ _ _ hl]; exact HC.out
  rintro e w' ⟨rfl, hC', hk⟩
  have hR : w'.heap[w.heap.size]? = some (.cells #[.int .i64 0, .nilIface] 29) := by
    rw [hk.block _ (by simp) (by simp; omega)]; exact heap_alloc_new w _
  have HR : Hid (w'.heap[w.heap.size]? = some (.cells #[.int .i64 0, .nilIface] 29)) := hR
  have HC' : Hid (w'.heap[b]? = some (.cells #[.int .i64 k, .int .i64 (c + 1)] 59)) := hC'
  have HK : Hid (Kept [b] (w.alloc (.cells #[.int .i64 0, .nilIface] 29)) w') := hk
  clear hC' hk hR
  go_upto_region 6 with (go_at_call 47; refine (done_any _ _).mono ?_; rintro e w'' ⟨rfl, rfl⟩)
  have hI2 : w''.heap[ci]? = some (.chan cap buf closed s r false) := by
    rw [HK.out.block ci (by simpa using Nat.lt_succ_of_lt hl2) (by simpa using hne.symm), Below.heap_alloc _ _ _ hl2]; exact HI.out
  refine wp_region_comm0 rfl _ _ (commTo_sel_recv (kk := 0) (c := ci) (z := .agg #[.int .i64 0, .nilIface]) (cap := cap) (buf := buf) (closed := closed) (s := s) (r := r) (tm := false) (w₁ := w'')
    (cases := #[rcase ci (.agg #[.int .i64 0, .nilIface]), nilCase (.agg #[])]) (blocking := true) (by simp [go_sem, execOp, rcase, nilCase, Act.eval]) rfl (fun m c' hm hc' => ?_) hI2 hsome) ?_
  · rcases m with _ | _ | m
    · exact absurd rfl hm
    · simp only [List.getElem?_toArray, List.getElem?_cons_succ, List.getElem?_cons_zero, Option.some.injEq] at hc'
      subst hc'
      exact noWay_nil none
    · simp at hc'
  rw [res_rr0, H0.out]
  simp only [Act.put, List.setIfInBounds_toArray, List.set_cons_succ, List.set_cons_zero]
  obtain ⟨W, hW⟩ : ∃ W, W = w''.setChan ci cap (buf.extract 1 buf.size) closed s (r + 1) false := ⟨_, rfl⟩
  rw [← hW]
  have hI3 : Hid (W.heap[ci]? = some (.chan cap (buf.extract 1 buf.size) closed s (r + 1) false)) := by rw [hW]; exact heap_setChan _ _ _ _ _ _ _ _ (lt_of_heap hI2)
  have hR3 : W.heap[w.heap.size]? = some (.cells #[.int .i64 0, .nilIface] 29) := by
    rw [hW]; simp only [World.setChan]; rw [Array.getElem?_setIfInBounds_ne (by omega)]; exact HR.out
  have hC3 : Hid (W.heap[b]? = some (.cells #[.int .i64 k, .int .i64 (c + 1)] 59)) := by
    rw [hW]; simp only [World.setChan]; rw [Array.getElem?_setIfInBounds_ne (Ne.symm hne)]; exact HC'.out
  have hK3 : Hid (Kept [b, ci] w W) := by
    rw [hW]; exact (((Kept.refl _ _).alloc _).trans (HK.out.mono (by simp))).setChan (by simp) _ _ _ _ _ _
  clear hW hI2
  have g0 := cell_of (o := 0) hR3 (v := .int .i64 0) rfl
  have g1 := cell_of (o := 1) hR3 (v := .nilIface) rfl
  have f0 := frozen_of (o := 0) hR3
  have f1 := frozen_of (o := 1) hR3
  clear hR3
  go_wp2
  have kk := two_set x er g0 g1
  have k2 := two_set x er kk.1 kk.2
  refine bodyPost_ret (v := .tuple #[.agg #[x, er], .bool true, .nilIface]) (by simp [results, Yba.results11, go_sem, k2.1, k2.2]) rfl ⟨rfl, ?_, ?_, ?_⟩
  · rw [Below.heap_setCell _ _ _ _ (by simp; omega), Below.heap_setCell _ _ _ _ (by simp; omega), Below.heap_setCell _ _ _ _ (by simp; omega), Below.heap_setCell _ _ _ _ (by simp; omega)]
    exact hC3.out
  · rw [Below.heap_setCell _ _ _ _ (by simp; omega), Below.heap_setCell _ _ _ _ (by simp; omega), Below.heap_setCell _ _ _ _ (by simp; omega), Below.heap_setCell _ _ _ _ (by simp; omega)]
    exact hI3.out
  · exact (((hK3.out.setCell (.inr (by simp)) _).setCell (.inr (by simp)) _).setCell (.inr (by simp)) _).setCell (.inr (by simp)) _

set_option maxRecDepth 100000 in
set_option maxHeartbeats 800000 in
theorem receive_shut (b ci : Nat) (k c : Int) (w : World) {cap s r : Nat} (hC : w.heap[b]? = some (.cells #[.int .i64 k, .int .i64 c] 59)) (hI : w.heap[ci]? = some (.chan cap #[] true s r false))
    (hc0 : 0 ≤ c) (hc1 : c ≤ 100000) (hle : c + 1 ≤ k) :
    Calls Yba.prog 11 #[.iface 57 (.pointer (some ⟨b, 0, none⟩)), .chan (some ci)] w fun e w' => e = .returned (.tuple #[.agg #[.int .i64 0, .nilIface], .bool false, .nilIface]) ∧ w'.heap[b]? = some (.cells #[.int .i64 k, .int .i64 (c + 1)] 59) ∧
      w'.heap[ci]? = some (.chan cap #[] true s r false) ∧ Kept [b, ci] w w' := by
  have hm := m_err
  have hd := m_done
  have hl := lt_of_heap hC
  have hl2 := lt_of_heap hI
  have hne : b ≠ ci := fun e => by rw [e, hI] at hC; cases hC
  have HC : Hid (w.heap[b]? = some (.cells #[.int .i64 k, .int .i64 c] 59)) := hC
  have HI : Hid (w.heap[ci]? = some (.chan cap #[] true s r false)) := hI
  clear hC hI
  go_enter Yba.func11, Yba.ntmps11
  go_wp2_with fail
  refine (err_ok b k c _ ?_ hc0 hc1 hle).mono ?_
  · rw [Below.heap_alloc _ _ _ hl]; exact HC.out
  rintro e w' ⟨rfl, hC', hk⟩
  have hR : w'.heap[w.heap.size]? = some (.cells #[.int .i64 0, .nilIface] 29) := by
    rw [hk.block _ (by simp) (by simp; omega)]; exact heap_alloc_new w _
  have HR : Hid (w'.heap[w.heap.size]? = some (.cells #[.int .i64 0, .nilIface] 29)) := hR
  have HC' : Hid (w'.heap[b]? = some (.cells #[.int .i64 k, .int .i64 (c + 1)] 59)) := hC'
  have HK : Hid (Kept [b] (w.alloc (.cells #[.int .i64 0, .nilIface] 29)) w') := hk
  clear hC' hk hR
  go_upto_region 6 with (go_at_call 47; refine (done_any _ _).mono ?_; rintro e w'' ⟨rfl, rfl⟩)
  have hI2 : w''.heap[ci]? = some (.chan cap #[] true s r false) := by
    rw [HK.out.block ci (by simpa using Nat.lt_succ_of_lt hl2) (by simpa using hne.symm), Below.heap_alloc _ _ _ hl2]; exact HI.out
  refine wp_region_comm0 rfl _ _ (commTo_sel_shut (kk := 0) (c := ci) (z := .agg #[.int .i64 0, .nilIface]) (cap := cap) (s := s) (r := r) (tm := false) (w₁ := w'')
    (cases := #[rcase ci (.agg #[.int .i64 0, .nilIface]), nilCase (.agg #[])]) (blocking := true) (by simp [go_sem, execOp, rcase, nilCase, Act.eval]) rfl (fun m c' hm hc' => ?_) hI2) ?_
  · rcases m with _ | _ | m
    · exact absurd rfl hm
    · simp only [List.getElem?_toArray, List.getElem?_cons_succ, List.getElem?_cons_zero, Option.some.injEq] at hc'
      subst hc'
      exact noWay_nil none
    · simp at hc'
  rw [res_rr0]
  simp only [Act.put, List.setIfInBounds_toArray, List.set_cons_succ, List.set_cons_zero]
  have hI3 : Hid (w''.heap[ci]? = some (.chan cap #[] true s r false)) := hI2
  have hK3 : Hid (Kept [b, ci] w w'') := ((Kept.refl _ _).alloc _).trans (HK.out.mono (by simp))
  have hR3 := HR.out
  clear hI2
  have g0 := cell_of (o := 0) hR3 (v := .int .i64 0) rfl
  have g1 := cell_of (o := 1) hR3 (v := .nilIface) rfl
  have f0 := frozen_of (o := 0) hR3
  have f1 := frozen_of (o := 1) hR3
  clear hR3
  go_wp2
  have kk := two_set (.int .i64 0) .nilIface g0 g1
  have k2 := two_set (.int .i64 0) .nilIface kk.1 kk.2
  refine bodyPost_ret (v := .tuple #[.agg #[.int .i64 0, .nilIface], .bool false, .nilIface]) (by simp [results, Yba.results11, go_sem, k2.1, k2.2]) rfl ⟨rfl, ?_, ?_, ?_⟩
  · rw [Below.heap_setCell _ _ _ _ (by simp; omega), Below.heap_setCell _ _ _ _ (by simp; omega), Below.heap_setCell _ _ _ _ (by simp; omega), Below.heap_setCell _ _ _ _ (by simp; omega)]
    exact HC'.out
  · rw [Below.heap_setCell _ _ _ _ (by simp; omega), Below.heap_setCell _ _ _ _ (by simp; omega), Below.heap_setCell _ _ _ _ (by simp; omega), Below.heap_setCell _ _ _ _ (by simp; omega)]
    exact hI3.out
  · exact (((hK3.out.setCell (.inr (by simp)) _).setCell (.inr (by simp)) _).setCell (.inr (by simp)) _).setCell (.inr (by simp)) _
end Go.Proofs.Ybulkably
