/-
  The walk of LawS1386AClosure.
-/
import Derived.Test.YbulkabriPlain
import Derived.ChangeKeysEq
namespace Go.Proofs.Ybulkabri
open Go.RowKit

theorem pk24 : Yba.prog.plainKey 24 = true := by kernel_rfl
theorem cells24 : Yba.prog.cellsOf 24 = 1 := by kernel_rfl
theorem items24 (Z : Nat → Nat) (d : Nat) (w : World) : ∀ is : List Nat, (∀ i ∈ is, i < 16) → (Op.eqItems (d + 1) 24 1 (words Z) (words Z) is).run Yba.prog w = .ok true w
  | [], _ => rfl
  | i :: is, h => by
    have hp := run_part_plain (P := Yba.prog) w pk24 (words_at Z (h i (by simp)))
    simp only [Op.eqItems, Nat.mul_one, Sem.run_bind, hp, Result.andThen_ok, run_equalIn_int (P := Yba.prog) w d 24 .u64 .u64 _ _ Yba.underlying24, BEq.rfl, Bool.not_true, Bool.false_eq_true, if_false]
    exact items24 Z d w is fun j hj => h j (by simp [hj])
theorem eq25 (Z : Nat → Nat) (w : World) : (Op.equalIn 10000 25 (.agg (words Z)) (.agg (words Z))).run Yba.prog w = .ok true w := by
  obtain ⟨i, hi⟩ : ∃ i, Yba.prog.info? 24 = some i := Option.isSome_iff_exists.1 (by kernel_rfl)
  rw [run_equalIn_array (P := Yba.prog) w 9999 _ _ Yba.underlying25 hi, cells24]
  exact items24 Z 9998 w _ fun i hi => by simpa using hi
theorem rc_of {n p : Nat} (hn : 0 < n) (hp : p < n * n) : ∃ r c : Nat, (p : Int) / n = r ∧ (p : Int) % n = c ∧ r < n ∧ c < n :=
  ⟨p / n, p % n, (Int.natCast_ediv p n).symm, (Int.natCast_emod p n).symm, Nat.div_lt_of_lt_mul hp, Nat.mod_lt _ hn⟩
theorem v_of {n s m r c : Nat} (hr : r < n) (hc : c < n) (hn : n < 1000) (hs : (n : Int) + 2 = s) (hm : (s : Int) * s = m) :
    ∃ q v : Nat, wrap64 (r : Int) = r ∧ ((r : Int) + 1) * s = q ∧ q + 2 * s ≤ m ∧ s ≤ q ∧ (q : Int) + c + 1 = v ∧ pt n (r * n + c) = v := by
  have hrf := row_facts r hr hs hm
  have e1 : s = n + 2 := by omega
  have e2 : s * s = m := by exact_mod_cast hm
  have e3 : (r + 1) * s ≤ n * s := Nat.mul_le_mul_right _ (by omega)
  have e4 : s * s = n * s + 2 * s := by rw [← Nat.add_mul, ← e1]
  refine ⟨(r + 1) * s, (r + 1) * s + c + 1, wrap64_n _ (by omega), by simp, by omega, Nat.le_mul_of_pos_left _ (Nat.succ_pos _), by simp, hrf.2.2.1 c hc⟩

structure LW (W : World) (N n s m : Nat) (col : Nat → Int) (nx R : Nat → Nat) (wx : World) : Prop where
  hR : wx.heap[N]? = some (.cells (words R) 25)
  hB : wx.heap[N + 2]? = some (.cells (bBlk n s (N + 1) m) 41)
  vs : VS wx (N + 1) m col nx
  below : Below W.heap.size W wx
  at_ : N = W.heap.size
theorem LW.kept {W wx wy : World} {N n s m b : Nat} {col : Nat → Int} {nx R : Nat → Nat} (h : LW W N n s m col nx R wx) (k : Kept [b] wx wy) (hb : N + 3 ≤ b) : LW W N n s m col nx R wy := by
  have e : ∀ j, j < N + 3 → j < wx.heap.size → wy.heap[j]? = wx.heap[j]? := fun j hj hw => k.block j hw (by simp; omega)
  exact ⟨by rw [e _ (by omega) (lt_of_heap h.hR)]; exact h.hR, by rw [e _ (by omega) (lt_of_heap h.hB)]; exact h.hB, h.vs.of_block (e _ (by omega) h.vs.lt), h.below.trans (k.below h.below.size (fun j hj => by have := h.at_; simp at hj; omega)), h.at_⟩

set_option maxRecDepth 100000 in
set_option maxHeartbeats 1600000 in
theorem law_walk (a0 : Int) (a : Option Addr) (len cap : Nat) (zs : List Int) (a2 : Int) (R : Nat → Nat) (W : World) (h0 : 0 ≤ a0) (h01 : a0 ≤ 255) (h : IsRow .u8 W a len cap zs) (h2 : 0 ≤ a2) (h21 : a2 ≤ 65535) (hF : Fits R) :
    Calls Yba.prog 3 #[.int .u8 a0, .slice a len cap, .int .u16 a2, .agg (words R)] W fun e w' => e = .returned (.bool true) ∧ Below W.heap.size W w' := by
  have HI := hide h
  clear h
  obtain ⟨k, hk⟩ : ∃ k : Nat, a0 % 24 = k := ⟨(a0 % 24).toNat, by omega⟩
  have hk24 : k < 24 := by omega
  obtain ⟨n, hn⟩ : ∃ n : Nat, (k : Int) + 2 = n := ⟨k + 2, by simp⟩
  obtain ⟨s, hs⟩ : ∃ s : Nat, (n : Int) + 2 = s := ⟨n + 2, by simp⟩
  obtain ⟨m, hm⟩ : ∃ m : Nat, (s : Int) * s = m := ⟨s * s, by simp⟩
  obtain ⟨M, hM⟩ : ∃ M : Nat, M = n * n := ⟨_, rfl⟩
  have hMI : (n : Int) * n = M := by rw [hM]; simp
  have hm1 : m ≤ 729 := by
    have e : s * s = m := by exact_mod_cast hm
    have : s * s ≤ 27 * 27 := Nat.mul_le_mul (by omega) (by omega)
    omega
  have hnn := nn_lt hs hm
  rw [← hM] at hnn
  obtain ⟨A, hA⟩ : ∃ A : Nat, a2 = A := ⟨a2.toNat, by omega⟩
  subst hA
  have hM4 : 4 ≤ M := by rw [hM]; exact Nat.mul_le_mul (show 2 ≤ n by omega) (show 2 ≤ n by omega)
  obtain ⟨p, hp⟩ : ∃ p : Nat, (A : Int) % M = p := ⟨A % M, by simp⟩
  have hpM : p < M := by
    have : ((A : Int) % M) < M := Int.emod_lt_of_pos _ (by omega)
    omega
  have HM := hide hM
  clear hM
  go_enter Yba.func3, Yba.ntmps3
  go_upto_region 2 with fail
  go_wp2_with fail
  obtain ⟨N, hN⟩ : ∃ N, N = W.heap.size := ⟨_, rfl⟩
  refine (build_walk a len cap zs n s m _ (HI.out.later ((Below.refl _ _).alloc (Nat.le_refl _) _)) (by omega) (by omega) hs hm hm1).mono ?_
  rintro e w2 ⟨rfl, hbd⟩
  rw [World.size_alloc, ← hN] at hbd
  rw [World.size_alloc, ← hN]
  have HB := hide hbd
  have HR : Hid (w2.heap[N]? = some (.cells (words R) 25)) := by
    rw [hbd.below.block _ (by rw [World.size_alloc]; omega)]; exact heap_at _ _ _ hN
  have HW : Hid (Below W.heap.size W w2) := ((Below.refl _ _).alloc (Nat.le_refl _) _).trans (hbd.below.mono (by simp))
  have HN := hide hN
  clear hbd hN
  obtain ⟨r, c, hr, hc, hrn0, hcn0⟩ := rc_of (show 0 < n by omega) (show p < n * n by rw [← HM.out]; exact hpM)
  have HRN := hide hrn0
  have HCN := hide hcn0
  clear hrn0 hcn0
  have HLW : Hid (LW W N n s m (colT n len zs (n * n)) (links n len zs 8) R w2) := ⟨HR.out, HB.out.hB, HB.out.vs, HW.out, HN.out⟩
  clear HB HR HW
  go_upto_region 4 with fail
  go_cut [12, 13] from 17 to 43 (fun s12 s13 wx => s12 = .int .i64 r ∧ s13 = .int .i64 c ∧ LW W N n s m (colT n len zs (n * n)) (links n len zs 8) R wx)
  case first =>
    go_quiet (fail)
    go_wp2
    go_meet
    case rel => exact ⟨congrArg (Value.int .i64) (wrap64_n _ (by have := HRN.out; clear hr hc hp; omega)), congrArg (Value.int .i64) hc, ⟨HLW.out.hR, HLW.out.hB, HLW.out.vs, below_drewN HLW.out.below _, HLW.out.at_⟩⟩
  case rest =>
    obtain ⟨rfl, rfl, hlw⟩ := hcut
    clear HLW hr hc hp
    obtain ⟨q, v, hwr, hqI, hqm, hqs, hv, hpt⟩ := v_of HRN.out HCN.out (show n < 1000 by omega) hs hm
    have HPT := hide hpt
    clear hpt
    have hrn := HRN.out
    have hcn := HCN.out
    have L1 := hide hlw
    clear hlw
    go_upto_region 6 with fail
    go_cut [15] from 17 to 44 (fun s15 wx => ∃ G, N + 3 ≤ G ∧ s15 = .pointer (some ⟨G, 0, none⟩) ∧ wx.heap[G]? = some (.cells (words R) 28) ∧ LW W N n s m (colT n len zs (n * n)) (links n len zs 8) R wx)
    case first =>
      go_wp2_with first | (refine wpList_load_row rfl 25 (.tmp 7) rfl N rfl 25 (words R) (0, 0) _ L1.out.hR Yba.underlying25 rfl (i25 R) ?_) | (refine wpList_store_row rfl 28 (.tmp 15) (.tmp 44) rfl _ (words R) rfl rfl 28 _ (heap_new _ _) (i28 R) (words_size R).symm (words_one R) ?_; rw [setRow_at _ _ _ _ _ rfl])
      go_meet
      case rel =>
        have hg := lt_of_heap L1.out.hB
        exact ⟨_, hg, rfl, heap_new _ _, L1.out.kept (b := _) ((Kept.refl _ _).alloc _) hg⟩
    case rest =>
      obtain ⟨G, hG, rfl, hGS, hlw⟩ := hcut
      have L2 := hide hlw
      have HG := hide hGS
      clear hlw hGS L1
      go_upto_region 7 with fail
      go_wp2_with fail
      have hrings := rings_ok (show 0 < n by omega) hs hm len zs
      refine (around_walk (N + 1 + 1) (N + 1) n s m G v 28 R (links n len zs 8) (per n len zs) (colT n len zs (n * n)) _ L2.out.hB L2.out.vs HG.out hF (by omega) (by omega) (by omega) (by omega) (by omega) (by omega) hm1 (fun i _ => colT_bd n len zs i _) hrings).mono ?_
      rintro e w4 ⟨rfl, has⟩
      have L4 := hide (L2.out.kept has.kept hG)
      have HZE : Hid (words (addS (expT n len zs r c R 4) (pt n (r * n + c))) = words (addS (aroundT (links n len zs 8) (per n len zs) (colT n len zs (n * n)) s v R 4) v)) := hide (by
        have e1 : s = n + 2 := by omega
        rw [e1, ← HPT.out]
        exact (same_words len zs hrn hcn hF).symm)
      obtain ⟨Z, hZ⟩ : ∃ Z, Z = addS (aroundT (links n len zs 8) (per n len zs) (colT n len zs (n * n)) s v R 4) v := ⟨_, rfl⟩
      have H4 := hide has.hS
      rw [← hZ] at HZE H4
      clear hZ has L2 HG hrings
      go_wp2_with (refine wpList_load_row rfl 25 (.tmp 7) rfl N rfl 25 (words R) (0, 0) _ L4.out.hR Yba.underlying25 rfl (i25 R) ?_)
      refine (expect_walk a len cap zs n s m r c R _ (HI.out.later L4.out.below) hF (by omega) (by omega) hs hm hm1 hrn hcn).mono ?_
      rw [HZE.out]
      rintro e w5 ⟨rfl, hb5⟩
      have H5 : Hid (w5.heap[G]? = some (.cells (words Z) 28)) := by rw [hb5.block _ (lt_of_heap H4.out)]; exact H4.out
      have HW5 : Hid (Below W.heap.size W w5) := L4.out.below.trans (hb5.mono L4.out.below.size)
      clear hb5 L4 H4
      have heq := eq25 Z
      go_upto_region 9 with first | (refine wpList_store_row rfl 25 (.tmp 16) (.tmp 54) rfl _ (words Z) rfl rfl 25 _ (heap_new _ _) (i25 Z) (words_size Z).symm (words_one Z) ?_; rw [setRow_at _ _ _ _ _ rfl])
      go_wp2_with first | (refine wpList_load_row rfl 28 (.tmp 15) rfl G rfl 28 (words Z) (0, 0) _ (by rw [Below.heap_alloc _ _ _ (lt_of_heap H5.out)]; exact H5.out) Yba.underlying28 rfl (i28 Z) ?_) | (refine wpList_load_row rfl 25 (.tmp 16) rfl _ rfl 25 (words Z) (0, 0) _ (heap_new _ _) Yba.underlying25 rfl (i25 Z) ?_)
      go_ret
      exact ⟨rfl, HW5.out.alloc HW5.out.size _⟩
end Go.Proofs.Ybulkabri
