import Derived.Test.YbulkablyErr
namespace Go.Proofs.Ybulkably
open Go.Conc Go.RowKit

theorem m_err (a : Addr) (w : World) : (method 235 57 (.pointer (some a)) "Err").run Yba.prog w = .ok (48, .pointer (some a)) w := by kernel_rfl
theorem m_done (a : Addr) (w : World) : (method 235 57 (.pointer (some a)) "Done").run Yba.prog w = .ok (47, .pointer (some a)) w := by kernel_rfl

set_option maxRecDepth 100000 in
set_option maxHeartbeats 400000 in
theorem deliver_no (b ch : Nat) (k c : Int) (w : World) (hC : w.heap[b]? = some (.cells #[.int .i64 k, .int .i64 c] 59)) (hc0 : 0 ≤ c) (hc1 : c ≤ 100000) (hle : k < c + 1) :
    Calls Yba.prog 8 #[.iface 57 (.pointer (some ⟨b, 0, none⟩)), .chan (some ch), .agg #[]] w fun e w' => ∃ p, e = .returned (.iface 61 (.pointer p)) ∧ w'.heap[b]? = some (.cells #[.int .i64 k, .int .i64 (c + 1)] 59) ∧ Kept [b] w w' := by
  have hm := m_err
  have hl := lt_of_heap hC
  have HC : Hid (w.heap[b]? = some (.cells #[.int .i64 k, .int .i64 c] 59)) := hC
  clear hC
  go_enter Yba.func8, Yba.ntmps8
  go_wp2_with fail
  refine (err_done b k c _ ?_ hc0 hc1 hle).mono ?_
  · rw [Below.heap_alloc _ _ _ hl]; exact HC.out
  rintro e w' ⟨p, rfl, hC', hk⟩
  go_wp2_with fail
  go_ret
  exact ⟨_, rfl, hC', ((Kept.refl _ _).alloc _).trans hk⟩

/-- A receive offered on the nil channel. -/
def nilCase (z : Value) : CommCase := { chan := .chan none, send := none, zero := z }
theorem res_sr0 (a : Nat) (u z z' : Value) : commResult #[scase a u z, nilCase z'] .select ((0 : Nat) : Int) undef false = .tuple #[goInt 0, .bool false, z'] := by
  simp [commResult, nilCase, scase, List.zipIdx_cons]

set_option maxRecDepth 100000 in
set_option maxHeartbeats 400000 in
theorem deliver_ok (b ch : Nat) (k c : Int) (w : World) {cap s r : Nat} {buf : Array Value} (hC : w.heap[b]? = some (.cells #[.int .i64 k, .int .i64 c] 59)) (hH : w.heap[ch]? = some (.chan cap buf false s r false)) (hroom : buf.size < cap)
    (hc0 : 0 ≤ c) (hc1 : c ≤ 100000) (hle : c + 1 ≤ k) :
    Calls Yba.prog 8 #[.iface 57 (.pointer (some ⟨b, 0, none⟩)), .chan (some ch), .agg #[]] w fun e w' => e = .returned .nilIface ∧ w'.heap[b]? = some (.cells #[.int .i64 k, .int .i64 (c + 1)] 59) ∧
      w'.heap[ch]? = some (.chan cap (buf.push (.agg #[])) false (s + 1) r false) ∧ Kept [b, ch] w w' := by
  have hm := m_err
  have hd := m_done
  have hl := lt_of_heap hC
  have hl2 := lt_of_heap hH
  have hne : b ≠ ch := fun e => by rw [e, hH] at hC; cases hC
  have HC : Hid (w.heap[b]? = some (.cells #[.int .i64 k, .int .i64 c] 59)) := hC
  have HH : Hid (w.heap[ch]? = some (.chan cap buf false s r false)) := hH
  clear hC hH
  go_enter Yba.func8, Yba.ntmps8
  go_wp2_with fail
  refine (err_ok b k c _ ?_ hc0 hc1 hle).mono ?_
  · rw [Below.heap_alloc _ _ _ hl]; exact HC.out
  rintro e w' ⟨rfl, hC', hk⟩
  have HC' : Hid (w'.heap[b]? = some (.cells #[.int .i64 k, .int .i64 (c + 1)] 59)) := hC'
  have HK : Hid (Kept [b] (w.alloc (.cells #[] 39)) w') := hk
  clear hC' hk
  go_upto_region 7 with (go_at_call 47; refine (done_any _ _).mono ?_; rintro e w'' ⟨rfl, rfl⟩)
  have hH2 : w''.heap[ch]? = some (.chan cap buf false s r false) := by
    rw [HK.out.block ch (by simpa using Nat.lt_succ_of_lt hl2) (by simpa using hne.symm), Below.heap_alloc _ _ _ hl2]; exact HH.out
  refine wp_region_comm0 rfl _ _ (commTo_sel_send (kk := 0) (c := ch) (v := .agg #[]) (z := .agg #[]) (cap := cap) (buf := buf) (s := s) (r := r) (tm := false) (w₁ := w'')
    (cases := #[scase ch (.agg #[]) (.agg #[]), nilCase (.agg #[])]) (blocking := true) (by simp [go_sem, execOp, scase, nilCase, Act.eval]) rfl (fun m c' hm hc' => ?_) hH2 hroom) ?_
  · rcases m with _ | _ | m
    · exact absurd rfl hm
    · simp only [List.getElem?_toArray, List.getElem?_cons_succ, List.getElem?_cons_zero, Option.some.injEq] at hc'
      subst hc'
      exact noWay_nil none
    · simp at hc'
  rw [res_sr0]
  simp only [Act.put, List.setIfInBounds_toArray, List.set_cons_succ, List.set_cons_zero]
  go_wp2
  go_ret
  refine ⟨rfl, ?_, heap_setChan _ _ _ _ _ _ _ _ (lt_of_heap hH2), ?_⟩
  · simp only [World.setChan]
    rw [Array.getElem?_setIfInBounds_ne (Ne.symm hne)]
    exact HC'.out
  · exact ((((Kept.refl _ _).alloc _).trans (HK.out.mono (by simp))).setChan (by simp) _ _ _ _ _ _)
end Go.Proofs.Ybulkably
