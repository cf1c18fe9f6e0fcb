import Derived.Test.YbulkabmmMaps
namespace Go.Proofs.Ybulkabmm
open Go.RowKit Go.Maps

theorem heap_new (w : World) (o : Obj) : (w.alloc o).heap[w.heap.size]? = some o := (MapKept.heap_alloc w o).1
set_option maxRecDepth 100000 in
set_option maxHeartbeats 800000 in
theorem member_walk (a0 : Option Addr) (len0 cap0 : Nat) (z0 : List Int) (a1 : Option Addr) (len1 cap1 : Nat) (z1 : List Int) (a2 : Int) (a3 : Bool) (w : World) (w0 : IsRow .i32 w a0 len0 cap0 z0) (w1 : IsRow .i32 w a1 len1 cap1 z1) (w2 : (Lit.int .i32 a2).wf = true) :
    Calls Yba.prog 5 #[.slice a0 len0 cap0, .slice a1 len1 cap1, .int .i32 a2, .bool a3] w fun e w' => e = .returned (.bool true) ∧ Below w.heap.size w w' := by
  have hl0 := w0.lens
  have hl1 := w1.lens
  unfold maxLen at hl0 hl1
  by_cases hb0 : 1024 < len0
  · go_enter Yba.func5, Yba.ntmps5
    go_wp2
    go_ret
    exact ⟨rfl, Below.refl _ _⟩
  by_cases hb1 : 1024 < len1
  · go_enter Yba.func5, Yba.ntmps5
    go_wp2
    go_ret
    exact ⟨rfl, Below.refl _ _⟩
  have W1 := hide w1
  have W0 := hide w0
  have W2 := hide w2
  clear w0 w1 w2
  go_enter Yba.func5, Yba.ntmps5
  go_wp2_with fail
  refine (cmap_any a0 len0 cap0 z0 _ W0.out (by omega)).mono ?_
  rintro e wa ⟨r0, rfl, hm0, hba⟩
  have BA := hide hba
  have M0 := hide hm0
  clear hba hm0
  go_wp2_with fail
  refine (cmap_any a1 len1 cap1 z1 _ (W1.out.later BA.out) (by omega)).mono ?_
  rintro e wb ⟨r1, rfl, hm1, hbb⟩
  have BB := hide (BA.out.trans (hbb.mono BA.out.size))
  have M0b := hide (M0.out.later hbb)
  have M1 := hide hm1
  clear hm1 hbb M0
  go_upto_region 4 with fail
  cases a3 with
  | true =>
    go_wp2_with fail
    refine (made_rel wb.heap.size (.map r0) (.map r1) (z1.take len1) a2 _ (heap_new _ _) (M1.out.later ((Below.refl _ _).alloc (Nat.le_refl _) _)) W2.out).mono ?_
    rintro e wd ⟨rfl, hbd⟩
    have BD := hide (((BB.out.alloc BB.out.size _)).trans (hbd.mono (by simp; have := BB.out.size; omega)))
    clear hbd
    go_wp2_with fail
    refine (chas_any a1 len1 cap1 z1 a2 _ (W1.out.later BD.out)).mono ?_
    rintro e we ⟨rfl, rfl⟩
    go_wp2
    go_ret
    exact ⟨by simp, BD.out⟩
  | false =>
    go_wp2_with fail
    refine (made_base wb.heap.size (.map r0) (.map r1) (z0.take len0) a2 _ (heap_new _ _) (M0b.out.later ((Below.refl _ _).alloc (Nat.le_refl _) _)) W2.out).mono ?_
    rintro e wd ⟨rfl, hbd⟩
    have BD := hide (((BB.out.alloc BB.out.size _)).trans (hbd.mono (by simp; have := BB.out.size; omega)))
    clear hbd
    go_wp2_with fail
    refine (chas_any a0 len0 cap0 z0 a2 _ (W0.out.later BD.out)).mono ?_
    rintro e we ⟨rfl, rfl⟩
    go_wp2
    go_ret
    exact ⟨by simp, BD.out⟩
end Go.Proofs.Ybulkabmm
