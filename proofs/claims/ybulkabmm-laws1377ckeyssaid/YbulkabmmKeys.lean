import Derived.Test.YbulkabmmMember
namespace Go.Proofs.Ybulkabmm
open Go.RowKit Go.Maps

/-- The state at a round's head: the struct, its two maps, nothing old turned. -/
structure KS (w : World) (bu : Nat) (r0 r1 : Option Nat) (k0 k1 : List Int) (wr : World) : Prop where
  hU : wr.heap[bu]? = some (.cells (uBlk (.map r0) (.map r1)) 40)
  m0 : MapIs wr (.map r0) k0
  m1 : MapIs wr (.map r1) k1
  below : Below w.heap.size w wr
theorem KS.later {w : World} {bu : Nat} {r0 r1 : Option Nat} {k0 k1 : List Int} {wr w' : World} (h : KS w bu r0 r1 k0 k1 wr) (hb : Below wr.heap.size wr w') : KS w bu r0 r1 k0 k1 w' :=
  ⟨by rw [hb.block _ (lt_of_heap h.hU)]; exact h.hU, h.m0.later hb, h.m1.later hb, h.below.trans (hb.mono h.below.size)⟩
theorem in_take {zs : List Int} {len j : Nat} (h : j < len) (hz : len ≤ zs.length) : decide (zs.getD j 0 ∈ zs.take len) = true := take_yes zs len j _ h hz rfl

set_option maxRecDepth 100000 in
set_option maxHeartbeats 1600000 in
theorem keys_walk (a0 : Option Addr) (len0 cap0 : Nat) (z0 : List Int) (a1 : Option Addr) (len1 cap1 : Nat) (z1 : List Int) (w : World) (w0 : IsRow .i32 w a0 len0 cap0 z0) (w1 : IsRow .i32 w a1 len1 cap1 z1) :
    Calls Yba.prog 6 #[.slice a0 len0 cap0, .slice a1 len1 cap1] w fun e w' => e = .returned (.bool true) ∧ Below w.heap.size w w' := by
  have hl0 := w0.lens
  have hl1 := w1.lens
  unfold maxLen at hl0 hl1
  obtain ⟨hz0, hm0⟩ := hl0
  obtain ⟨hz1, hm1⟩ := hl1
  by_cases hb0 : 1024 < len0
  · go_enter Yba.func6, Yba.ntmps6
    go_wp2
    go_ret
    exact ⟨rfl, Below.refl _ _⟩
  by_cases hb1 : 1024 < len1
  · go_enter Yba.func6, Yba.ntmps6
    go_wp2
    go_ret
    exact ⟨rfl, Below.refl _ _⟩
  have W1 := hide w1
  have W0 := hide w0
  clear w0 w1
  go_enter Yba.func6, Yba.ntmps6
  go_wp2_with fail
  refine (cmap_any a0 len0 cap0 z0 _ W0.out (by omega)).mono ?_
  rintro e wa ⟨r0, rfl, hm0, hba⟩
  have BA := hide hba
  have M0 := hide hm0
  clear hba hm0
  go_wp2_with fail
  refine (cmap_any a1 len1 cap1 z1 _ (W1.out.later BA.out) (by omega)).mono ?_
  rintro e wb ⟨r1, rfl, hm1, hbb⟩
  have K0 : Hid (KS w wb.heap.size r0 r1 (z0.take len0) (z1.take len1) (wb.alloc (.cells (uBlk (.map r0) (.map r1)) 40))) :=
    ⟨heap_new _ _, (M0.out.later hbb).later ((Below.refl _ _).alloc (Nat.le_refl _) _), hm1.later ((Below.refl _ _).alloc (Nat.le_refl _) _), (BA.out.trans (hbb.mono BA.out.size)).alloc (Nat.le_trans BA.out.size hbb.size) _⟩
  obtain ⟨bu, hbu⟩ : ∃ bu, bu = wb.heap.size := ⟨_, rfl⟩
  clear hm1 hbb M0 BA
  go_upto_region 4 with fail
  rw [← hbu] at K0
  go_cut [5, 24, 25, 26] from 10 to 23 (fun p s24 s25 s26 wx => p = .pointer (some ⟨bu, 0, none⟩) ∧ s24 = .slice a0 len0 cap0 ∧ s25 = .int .i64 len0 ∧ s26 = .int .i64 0 ∧ KS w bu r0 r1 (z0.take len0) (z1.take len1) wx)
  case first =>
    go_wp2
    go_meet
    case rel => exact ⟨by rw [hbu], rfl, rfl, rfl, K0.out⟩
  case rest =>
    obtain ⟨rfl, rfl, rfl, rfl, hks⟩ := hcut
    have KC := hide hks
    clear hks hbu K0
    go_wp2
    go_loopg [26] len0 (fun g s wr => ∃ j : Nat, j ≤ len0 ∧ g = len0 - j ∧ s = .int .i64 j ∧ KS w bu r0 r1 (z0.take len0) (z1.take len1) wr)
    case atStart => exact ⟨0, Nat.zero_le _, rfl, rfl, KC.out⟩
    case round =>
      obtain ⟨j, hj, rfl, rfl, hks⟩ := hrel
      clear KC
      have KR := hide hks
      clear hks
      by_cases hlt : j < len0
      · obtain ⟨b, off, ha, hbl, hcell⟩ := W0.out.at_ hlt
        have HWF := hide (W0.out.wf hlt)
        subst ha
        obtain ⟨y, hy⟩ : ∃ y, y = z0.getD j 0 := ⟨_, rfl⟩
        have hcr : wr.cell? ⟨b, off + j, none⟩ = some (.int .i32 y) := by rw [hy, KR.out.below.cell (p := ⟨b, off + j, none⟩) hbl]; exact hcell
        have HIN : Hid (decide (y ∈ z0.take len0) = true) := by rw [hy]; exact in_take hlt hz0
        rw [← hy] at HWF
        clear hy hcell
        go_wp2_with fail
        refine (made_base bu (.map r0) (.map r1) (z0.take len0) y _ KR.out.hU KR.out.m0 HWF.out).mono ?_
        rintro e wd ⟨rfl, hbd⟩
        rw [HIN.out]
        have KD := hide (KR.out.later hbd)
        clear hbd hcr
        go_wp2_with fail
        refine (made_rel bu (.map r0) (.map r1) (z1.take len1) y _ KD.out.hU KD.out.m1 HWF.out).mono ?_
        rintro e we ⟨rfl, hbe⟩
        have KE := hide (KD.out.later hbe)
        clear hbe
        go_wp2_with fail
        refine (chas_any a1 len1 cap1 z1 y _ (W1.out.later KE.out.below)).mono ?_
        rintro e wf ⟨rfl, rfl⟩
        go_wp2
        go_roundg (len0 - (j + 1))
        case measure => omega
        case rel => exact ⟨j + 1, by omega, rfl, by go_num, KE.out⟩
      · go_upto_region 12 with fail
        go_cut [44, 45, 46] from 26 to 43 (fun s44 s45 s46 wx => s44 = .slice a1 len1 cap1 ∧ s45 = .int .i64 len1 ∧ s46 = .int .i64 0 ∧ KS w bu r0 r1 (z0.take len0) (z1.take len1) wx)
        case first =>
          go_wp2
          go_meet
          case rel => exact ⟨rfl, rfl, rfl, KR.out⟩
        case rest =>
          obtain ⟨rfl, rfl, rfl, hks⟩ := hcut
          have KC := hide hks
          clear hks KR
          go_wp2
          go_loopg [46] len1 (fun g s wr => ∃ j : Nat, j ≤ len1 ∧ g = len1 - j ∧ s = .int .i64 j ∧ KS w bu r0 r1 (z0.take len0) (z1.take len1) wr)
          case atStart => exact ⟨0, Nat.zero_le _, rfl, rfl, KC.out⟩
          case round =>
            obtain ⟨j, hj, rfl, rfl, hks⟩ := hrel
            clear KC
            have KR := hide hks
            clear hks
            by_cases hlt : j < len1
            · obtain ⟨b, off, ha, hbl, hcell⟩ := W1.out.at_ hlt
              have HWF := hide (W1.out.wf hlt)
              subst ha
              obtain ⟨y, hy⟩ : ∃ y, y = z1.getD j 0 := ⟨_, rfl⟩
              have hcr : wr.cell? ⟨b, off + j, none⟩ = some (.int .i32 y) := by rw [hy, KR.out.below.cell (p := ⟨b, off + j, none⟩) hbl]; exact hcell
              have HIN : Hid (decide (y ∈ z1.take len1) = true) := by rw [hy]; exact in_take hlt hz1
              rw [← hy] at HWF
              clear hy hcell
              go_wp2_with fail
              refine (made_rel bu (.map r0) (.map r1) (z1.take len1) y _ KR.out.hU KR.out.m1 HWF.out).mono ?_
              rintro e wd ⟨rfl, hbd⟩
              rw [HIN.out]
              have KD := hide (KR.out.later hbd)
              clear hbd hcr
              go_wp2_with fail
              refine (made_base bu (.map r0) (.map r1) (z0.take len0) y _ KD.out.hU KD.out.m0 HWF.out).mono ?_
              rintro e we ⟨rfl, hbe⟩
              have KE := hide (KD.out.later hbe)
              clear hbe
              go_wp2_with fail
              refine (chas_any a0 len0 cap0 z0 y _ (W0.out.later KE.out.below)).mono ?_
              rintro e wf ⟨rfl, rfl⟩
              go_wp2
              go_roundg (len1 - (j + 1))
              case measure => omega
              case rel => exact ⟨j + 1, by omega, rfl, by go_num, KE.out⟩
            · go_wp2
              go_ret
              exact ⟨rfl, KR.out.below⟩
end Go.Proofs.Ybulkabmm
