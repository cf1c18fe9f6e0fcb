/-
  deliver, receive and take with context.Background().
-/
import Derived.Test.YbulkablyTakeEnd
namespace Go.Proofs.Ybulkably
open Go.Conc Go.RowKit Go.MuLone

/-- context.Background(), as an interface value. -/
abbrev bgV : Value := .iface 66 (.agg #[])

theorem bg_any (w : World) : Calls Yba.prog 6 #[] w fun e w' => e = .returned bgV ∧ w' = w := by
  go_enter Yba.func6, Yba.ntmps6
  go_wp2
  go_ret
  exact ⟨rfl, rfl⟩
theorem bgerr_any (w : World) : Calls Yba.prog 53 #[.agg #[]] w fun e w' => e = .returned .nilIface ∧ w' = w.alloc (.cells #[] 64) := by
  go_enter Yba.func53, Yba.ntmps53
  go_wp2
  go_ret
  exact ⟨rfl, rfl⟩
theorem bgdone_any (w : World) : Calls Yba.prog 52 #[.agg #[]] w fun e w' => e = .returned (.chan none) ∧ w' = w.alloc (.cells #[] 64) := by
  go_enter Yba.func52, Yba.ntmps52
  go_wp2
  go_ret
  exact ⟨rfl, rfl⟩
theorem mb_err (w : World) : (method 235 66 (.agg #[]) "Err").run Yba.prog w = .ok (53, .agg #[]) w := by kernel_rfl
theorem mb_done (w : World) : (method 235 66 (.agg #[]) "Done").run Yba.prog w = .ok (52, .agg #[]) w := by kernel_rfl

set_option maxRecDepth 100000 in
set_option maxHeartbeats 400000 in
theorem deliver_bg (ch : Nat) (w : World) {cap s r : Nat} {buf : Array Value} (hH : w.heap[ch]? = some (.chan cap buf false s r false)) (hroom : buf.size < cap) :
    Calls Yba.prog 8 #[bgV, .chan (some ch), .agg #[]] w fun e w' => e = .returned .nilIface ∧ w'.heap[ch]? = some (.chan cap (buf.push (.agg #[])) false (s + 1) r false) ∧ Kept [ch] w w' := by
  have hm := mb_err
  have hd := mb_done
  have hl2 := lt_of_heap hH
  have HH : Hid (w.heap[ch]? = some (.chan cap buf false s r false)) := hH
  clear hH
  go_enter Yba.func8, Yba.ntmps8
  go_wp2_with fail
  refine (bgerr_any _).mono ?_
  rintro e w' ⟨rfl, hw'⟩
  have HK : Hid (Kept [ch] w w') := by rw [hw']; exact ((Kept.refl _ _).alloc _).alloc _
  have HH' : Hid (w'.heap[ch]? = some (.chan cap buf false s r false)) := by
    rw [hw', Below.heap_alloc _ _ _ (by simp; omega), Below.heap_alloc _ _ _ hl2]; exact HH.out
  clear hw'
  go_upto_region 6 with fail
  go_wp2_with fail
  refine (bgdone_any _).mono ?_
  rintro e w2 ⟨rfl, hw2⟩
  have HK2 : Hid (Kept [ch] w w2) := by rw [hw2]; exact HK.out.alloc _
  have hH2 : w2.heap[ch]? = some (.chan cap buf false s r false) := by
    rw [hw2, Below.heap_alloc _ _ _ (lt_of_heap HH'.out)]; exact HH'.out
  have HH2 := hide hH2
  clear hw2 hH2
  go_upto_region 7 with fail
  refine wp_region_comm0 rfl _ _ (commTo_sel_send (kk := 0) (c := ch) (v := .agg #[]) (z := .agg #[]) (cap := cap) (buf := buf) (s := s) (r := r) (tm := false) (w₁ := w2)
    (cases := #[scase ch (.agg #[]) (.agg #[]), nilCase (.agg #[])]) (blocking := true) (by simp [go_sem, execOp, scase, nilCase, Act.eval]) rfl (fun m c' hm hc' => ?_) HH2.out hroom) ?_
  · rcases m with _ | _ | m
    · exact absurd rfl hm
    · simp only [List.getElem?_toArray, List.getElem?_cons_succ, List.getElem?_cons_zero, Option.some.injEq] at hc'
      subst hc'
      exact noWay_nil none
    · simp at hc'
  rw [res_sr0]
  simp only [Act.put, List.setIfInBounds_toArray, List.set_cons_succ, List.set_cons_zero]
  go_wp2
  go_ret
  exact ⟨rfl, heap_setChan _ _ _ _ _ _ _ _ (lt_of_heap HH2.out), HK2.out.setChan (by simp) _ _ _ _ _ _⟩

set_option maxRecDepth 100000 in
set_option maxHeartbeats 800000 in
theorem receive_val_bg (ci : Nat) (x er : Value) (hx : x.oneCell' = true) (her : er.oneCell' = true) (w : World) {cap s r : Nat} {buf : Array Value} {closed : Bool} (hI : w.heap[ci]? = some (.chan cap buf closed s r false))
    (hsome : 0 < buf.size) (h0 : buf.getD 0 undef = .agg #[x, er]) :
    Calls Yba.prog 11 #[bgV, .chan (some ci)] w fun e w' => e = .returned (.tuple #[.agg #[x, er], .bool true, .nilIface]) ∧
      w'.heap[ci]? = some (.chan cap (buf.extract 1 buf.size) closed s (r + 1) false) ∧ Kept [ci] w w' := by
  have hm := mb_err
  have hd := mb_done
  have hsx := fun (w : World) (a : Addr) (m : Mode) => run_store Yba.prog w a x m hx
  have hse := fun (w : World) (a : Addr) (m : Mode) => run_store Yba.prog w a er m her
  have hl2 := lt_of_heap hI
  have HI : Hid (w.heap[ci]? = some (.chan cap buf closed s r false)) := hI
  have H0 : Hid (buf.getD 0 undef = .agg #[x, er]) := h0
  clear hI h0
  go_enter Yba.func11, Yba.ntmps11
  go_wp2_with fail
  refine (bgerr_any _).mono ?_
  rintro e w' ⟨rfl, hw'⟩
  have HR : Hid (w'.heap[w.heap.size]? = some (.cells #[.int .i64 0, .nilIface] 29)) := by
    rw [hw', Below.heap_alloc _ _ _ (by simp)]; exact heap_alloc_new w _
  have HK : Hid (Kept [ci] w w') := by rw [hw']; exact ((Kept.refl _ _).alloc _).alloc _
  have HI' : Hid (w'.heap[ci]? = some (.chan cap buf closed s r false)) := by
    rw [hw', Below.heap_alloc _ _ _ (by simp; omega), Below.heap_alloc _ _ _ hl2]; exact HI.out
  clear hw'
  go_wp2_with fail
  refine (bgdone_any _).mono ?_
  rintro e w2 ⟨rfl, hw2⟩
  have HR2 : Hid (w2.heap[w.heap.size]? = some (.cells #[.int .i64 0, .nilIface] 29)) := by
    rw [hw2, Below.heap_alloc _ _ _ (lt_of_heap HR.out)]; exact HR.out
  have HK2 : Hid (Kept [ci] w w2) := by rw [hw2]; exact HK.out.alloc _
  have hI2 : w2.heap[ci]? = some (.chan cap buf closed s r false) := by
    rw [hw2, Below.heap_alloc _ _ _ (lt_of_heap HI'.out)]; exact HI'.out
  have HI2 := hide hI2
  clear hw2 hI2
  go_upto_region 6 with fail
  refine wp_region_comm0 rfl _ _ (commTo_sel_recv (kk := 0) (c := ci) (z := .agg #[.int .i64 0, .nilIface]) (cap := cap) (buf := buf) (closed := closed) (s := s) (r := r) (tm := false) (w₁ := w2)
    (cases := #[rcase ci (.agg #[.int .i64 0, .nilIface]), nilCase (.agg #[])]) (blocking := true) (by simp [go_sem, execOp, rcase, nilCase, Act.eval]) rfl (fun m c' hm hc' => ?_) HI2.out hsome) ?_
  · rcases m with _ | _ | m
    · exact absurd rfl hm
    · simp only [List.getElem?_toArray, List.getElem?_cons_succ, List.getElem?_cons_zero, Option.some.injEq] at hc'
      subst hc'
      exact noWay_nil none
    · simp at hc'
  rw [res_rr0, H0.out]
  simp only [Act.put, List.setIfInBounds_toArray, List.set_cons_succ, List.set_cons_zero]
  obtain ⟨W, hW⟩ : ∃ W, W = w2.setChan ci cap (buf.extract 1 buf.size) closed s (r + 1) false := ⟨_, rfl⟩
  rw [← hW]
  have hI3 : Hid (W.heap[ci]? = some (.chan cap (buf.extract 1 buf.size) closed s (r + 1) false)) := by rw [hW]; exact heap_setChan _ _ _ _ _ _ _ _ (lt_of_heap HI2.out)
  have hR3 : W.heap[w.heap.size]? = some (.cells #[.int .i64 0, .nilIface] 29) := by
    rw [hW]; simp only [World.setChan]; rw [Array.getElem?_setIfInBounds_ne (by omega)]; exact HR2.out
  have hK3 : Hid (Kept [ci] w W) := by
    rw [hW]; exact HK2.out.setChan (by simp) _ _ _ _ _ _
  clear hW
  have g0 := cell_of (o := 0) hR3 (v := .int .i64 0) rfl
  have g1 := cell_of (o := 1) hR3 (v := .nilIface) rfl
  have f0 := frozen_of (o := 0) hR3
  have f1 := frozen_of (o := 1) hR3
  clear hR3
  go_wp2
  have kk := two_set x er g0 g1
  have k2 := two_set x er kk.1 kk.2
  refine bodyPost_ret (v := .tuple #[.agg #[x, er], .bool true, .nilIface]) (by simp [results, Yba.results11, go_sem, k2.1, k2.2]) rfl ⟨rfl, ?_, ?_⟩
  · rw [Below.heap_setCell _ _ _ _ (by simp; omega), Below.heap_setCell _ _ _ _ (by simp; omega), Below.heap_setCell _ _ _ _ (by simp; omega), Below.heap_setCell _ _ _ _ (by simp; omega)]
    exact hI3.out
  · exact (((hK3.out.setCell (.inr (by simp)) _).setCell (.inr (by simp)) _).setCell (.inr (by simp)) _).setCell (.inr (by simp)) _

set_option maxRecDepth 100000 in
set_option maxHeartbeats 800000 in
theorem receive_shut_bg (ci : Nat) (w : World) {cap s r : Nat} (hI : w.heap[ci]? = some (.chan cap #[] true s r false)) :
    Calls Yba.prog 11 #[bgV, .chan (some ci)] w fun e w' => e = .returned (.tuple #[.agg #[.int .i64 0, .nilIface], .bool false, .nilIface]) ∧
      w'.heap[ci]? = some (.chan cap #[] true s r false) ∧ Kept [ci] w w' := by
  have hm := mb_err
  have hd := mb_done
  have hl2 := lt_of_heap hI
  have HI : Hid (w.heap[ci]? = some (.chan cap #[] true s r false)) := hI
  clear hI
  go_enter Yba.func11, Yba.ntmps11
  go_wp2_with fail
  refine (bgerr_any _).mono ?_
  rintro e w' ⟨rfl, hw'⟩
  have HR : Hid (w'.heap[w.heap.size]? = some (.cells #[.int .i64 0, .nilIface] 29)) := by
    rw [hw', Below.heap_alloc _ _ _ (by simp)]; exact heap_alloc_new w _
  have HK : Hid (Kept [ci] w w') := by rw [hw']; exact ((Kept.refl _ _).alloc _).alloc _
  have HI' : Hid (w'.heap[ci]? = some (.chan cap #[] true s r false)) := by
    rw [hw', Below.heap_alloc _ _ _ (by simp; omega), Below.heap_alloc _ _ _ hl2]; exact HI.out
  clear hw'
  go_wp2_with fail
  refine (bgdone_any _).mono ?_
  rintro e w2 ⟨rfl, hw2⟩
  have HR2 : Hid (w2.heap[w.heap.size]? = some (.cells #[.int .i64 0, .nilIface] 29)) := by
    rw [hw2, Below.heap_alloc _ _ _ (lt_of_heap HR.out)]; exact HR.out
  have HK2 : Hid (Kept [ci] w w2) := by rw [hw2]; exact HK.out.alloc _
  have hI2 : w2.heap[ci]? = some (.chan cap #[] true s r false) := by
    rw [hw2, Below.heap_alloc _ _ _ (lt_of_heap HI'.out)]; exact HI'.out
  have HI2 := hide hI2
  clear hw2 hI2
  go_upto_region 6 with fail
  refine wp_region_comm0 rfl _ _ (commTo_sel_shut (kk := 0) (c := ci) (z := .agg #[.int .i64 0, .nilIface]) (cap := cap) (s := s) (r := r) (tm := false) (w₁ := w2)
    (cases := #[rcase ci (.agg #[.int .i64 0, .nilIface]), nilCase (.agg #[])]) (blocking := true) (by simp [go_sem, execOp, rcase, nilCase, Act.eval]) rfl (fun m c' hm hc' => ?_) HI2.out) ?_
  · rcases m with _ | _ | m
    · exact absurd rfl hm
    · simp only [List.getElem?_toArray, List.getElem?_cons_succ, List.getElem?_cons_zero, Option.some.injEq] at hc'
      subst hc'
      exact noWay_nil none
    · simp at hc'
  rw [res_rr0]
  simp only [Act.put, List.setIfInBounds_toArray, List.set_cons_succ, List.set_cons_zero]
  have hR3 := HR2.out
  have g0 := cell_of (o := 0) hR3 (v := .int .i64 0) rfl
  have g1 := cell_of (o := 1) hR3 (v := .nilIface) rfl
  have f0 := frozen_of (o := 0) hR3
  have f1 := frozen_of (o := 1) hR3
  clear hR3
  go_wp2
  have kk := two_set (.int .i64 0) .nilIface g0 g1
  have k2 := two_set (.int .i64 0) .nilIface kk.1 kk.2
  refine bodyPost_ret (v := .tuple #[.agg #[.int .i64 0, .nilIface], .bool false, .nilIface]) (by simp [results, Yba.results11, go_sem, k2.1, k2.2]) rfl ⟨rfl, ?_, ?_⟩
  · rw [Below.heap_setCell _ _ _ _ (by simp; omega), Below.heap_setCell _ _ _ _ (by simp; omega), Below.heap_setCell _ _ _ _ (by simp; omega), Below.heap_setCell _ _ _ _ (by simp; omega)]
    exact HI2.out
  · exact (((HK2.out.setCell (.inr (by simp)) _).setCell (.inr (by simp)) _).setCell (.inr (by simp)) _).setCell (.inr (by simp)) _
end Go.Proofs.Ybulkably
