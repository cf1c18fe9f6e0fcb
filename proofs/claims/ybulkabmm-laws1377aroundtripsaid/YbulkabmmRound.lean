import Derived.Test.YbulkabmmHeld
namespace Go.Proofs.Ybulkabmm
open Go.RowKit

set_option maxRecDepth 100000 in
set_option maxHeartbeats 400000 in
theorem roundtrip_small (a0 : Bool) (a1 a2 a3 a4 : Int) (w : World) (h : a2 < 0) :
    Calls Yba.prog 4 #[.bool a0, .int .i64 a1, .int .i64 a2, .int .i64 a3, .int .i64 a4] w fun e w' => e = .returned (.bool true) ∧ Below w.heap.size w w' := by
  go_enter Yba.func4, Yba.ntmps4
  go_wp2
  go_ret
  exact ⟨rfl, Below.refl _ _⟩

set_option maxRecDepth 100000 in
set_option maxHeartbeats 400000 in
theorem roundtrip_big (a0 : Bool) (a1 a2 a3 a4 : Int) (w : World) (h0 : 0 ≤ a2) (h : 1099511627776 < a2) :
    Calls Yba.prog 4 #[.bool a0, .int .i64 a1, .int .i64 a2, .int .i64 a3, .int .i64 a4] w fun e w' => e = .returned (.bool true) ∧ Below w.heap.size w w' := by
  go_enter Yba.func4, Yba.ntmps4
  go_wp2
  go_ret
  exact ⟨rfl, Below.refl _ _⟩

set_option maxRecDepth 100000 in
set_option maxHeartbeats 800000 in
theorem roundtrip_mid (a0 : Bool) (a1 a2 a3 a4 : Int) (w : World) (h0 : 0 ≤ a2) (h : a2 ≤ 1099511627776) :
    Calls Yba.prog 4 #[.bool a0, .int .i64 a1, .int .i64 a2, .int .i64 a3, .int .i64 a4] w fun e w' => e = .returned (.bool true) ∧ Below w.heap.size w w' := by
  have e1 : Hid (wrap64 (a2 + 1) = a2 + 1) := by show wrap64 (a2 + 1) = a2 + 1; unfold wrap64; omega
  have e2 : Hid (wrap64 (a2 + 1 - 1) = a2) := by show wrap64 (a2 + 1 - 1) = a2; unfold wrap64; omega
  go_enter Yba.func4, Yba.ntmps4
  go_wp2_with fail
  refine (next_rlock a0 a1 a2 0 0 a3 _).mono ?_
  rintro e w1 ⟨rfl, hb1⟩
  rw [e1.out]
  obtain ⟨hc, hf⟩ := bcell hb1
  have c0 : w1.cell? ⟨w.heap.size, 0, none⟩ = some (.bool a0) := by rw [hc _ _ (by simp)]; simp [go_sem]
  have c1 : w1.cell? ⟨w.heap.size, 1, none⟩ = some (.int .i64 a1) := by rw [hc _ _ (by simp)]; simp [go_sem]
  have c2 : w1.cell? ⟨w.heap.size, 2, none⟩ = some (.int .i64 a2) := by rw [hc _ _ (by simp)]; simp [go_sem]
  have s1 : w.heap.size < w1.heap.size := by have := hb1.size; simp at this; omega
  have B1 : Hid (Below w.heap.size w w1) := ((Below.refl _ _).alloc (Nat.le_refl _) _).trans (hb1.mono (by simp))
  clear hc hf hb1
  go_wp2_with fail
  refine (next_runlock_pos a0 a1 (a2 + 1) 0 0 a4 _ (by rw [e2.out]; omega)).mono ?_
  rintro e w2 ⟨rfl, hb2⟩
  rw [e2.out]
  obtain ⟨hc, hf⟩ := bcell hb2
  have d0 : w2.cell? ⟨w.heap.size, 0, none⟩ = some (.bool a0) := by rw [hc _ _ s1]; exact c0
  have d1 : w2.cell? ⟨w.heap.size, 1, none⟩ = some (.int .i64 a1) := by rw [hc _ _ s1]; exact c1
  have d2 : w2.cell? ⟨w.heap.size, 2, none⟩ = some (.int .i64 a2) := by rw [hc _ _ s1]; exact c2
  have s2 : w.heap.size < w2.heap.size := by have := hb2.size; omega
  have B2 : Hid (Below w.heap.size w w2) := B1.out.trans (hb2.mono (by omega))
  clear hc hf hb2 c0 c1 c2
  go_wp2_with fail
  refine (next_lock a0 a1 a2 0 0 a3 _).mono ?_
  rintro e w3 ⟨rfl, hb3⟩
  have B3 : Hid (Below w.heap.size w w3) := (B2.out.alloc (by omega) _).trans (hb3.mono (by simp; omega))
  have s3 : w.heap.size < w3.heap.size := by have := hb3.size; simp at this; omega
  clear hb3 d0 d1 d2
  go_wp2_with fail
  refine (next_unlock true a3 0 0 0 a4 _).mono ?_
  rintro e w4 ⟨rfl, hb4⟩
  have B4 : Hid (Below w.heap.size w w4) := B3.out.trans (hb4.mono (by omega))
  have s4 : w.heap.size < w4.heap.size := by have := hb4.size; omega
  clear hb4
  go_wp2
  go_ret
  exact ⟨by simp, B4.out.alloc (by omega) _⟩

theorem roundtrip_walk (a0 : Bool) (a1 a2 a3 a4 : Int) (w : World) :
    Calls Yba.prog 4 #[.bool a0, .int .i64 a1, .int .i64 a2, .int .i64 a3, .int .i64 a4] w fun e w' => e = .returned (.bool true) ∧ Below w.heap.size w w' := by
  by_cases h : a2 < 0
  · exact roundtrip_small a0 a1 a2 a3 a4 w h
  · by_cases h2 : 1099511627776 < a2
    · exact roundtrip_big a0 a1 a2 a3 a4 w (by omega) h2
    · exact roundtrip_mid a0 a1 a2 a3 a4 w (by omega) (by omega)
end Go.Proofs.Ybulkabmm
