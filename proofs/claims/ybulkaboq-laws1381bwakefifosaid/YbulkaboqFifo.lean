import Derived.Test.YbulkaboqStep
import Derived.LaidEql
namespace Go.Proofs.Ybulkaboq
open Go.Conc Go.RowKit

theorem Yba.info25 : (Yba.prog.info? 25).map (fun i => (i.zero, i.size, i.bytes)) = some (some (.pointer none), 1, 8) := by kernel_rfl
theorem info30 : ∃ i, Yba.prog.info? 30 = some i ∧ i.bytes = 0 := by
  have h : (Yba.prog.info? 30).map (·.bytes) = some 0 := by kernel_rfl
  obtain ⟨i, hi, hb⟩ := Option.map_eq_some_iff.1 h
  exact ⟨i, hi, hb⟩
theorem mk26 (w : World) : (Instr.makeChan 26 (.int .i64 1)).run Yba.prog w = .ok (.chan (some w.heap.size)) (w.alloc (.chan 1 #[] false 0 0 false)) := by
  obtain ⟨i, hi, hb⟩ := info30
  simpa using run_makeChan (P := Yba.prog) (w := w) Yba.underlying26 hi .i64 1 (by omega) (by rw [hb]; omega)

/-- The links behind i rounds of the second loop. -/
def pvb (N i j : Nat) : Value := if 0 < j ∧ j < i then ptr (N + 2 + 2 * (j - 1)) else nilP
def nvb (N cnt i j : Nat) : Value := if j < i ∧ j + 1 < cnt then ptr (N + 2 + 2 * (j + 1)) else nilP
def no (_ : Nat) : Bool := false
def nils (_ : Nat) : Value := nilP

theorem pvb_step (N k j : Nat) : (if j = k + 1 then ptr (N + 2 + 2 * k) else pvb N (k + 1) j) = pvb N (k + 1 + 1) j := by
  unfold pvb
  by_cases e : j = k + 1
  · subst e; rw [if_pos rfl, if_pos (by omega)]; simp
  · rw [if_neg e]
    by_cases h : 0 < j ∧ j < k + 1
    · rw [if_pos h, if_pos (by omega)]
    · rw [if_neg h, if_neg (by omega)]
theorem nvb_step (N cnt i j : Nat) (h : i + 1 < cnt) : (if j = i then ptr (N + 2 + 2 * (i + 1)) else nvb N cnt i j) = nvb N cnt (i + 1) j := by
  unfold nvb
  by_cases e : j = i
  · subst e; rw [if_pos rfl, if_pos (by omega)]
  · rw [if_neg e]
    by_cases h : j < i ∧ j + 1 < cnt
    · rw [if_pos h, if_pos (by omega)]
    · rw [if_neg h, if_neg (by omega)]
theorem nvb_last (N cnt i j : Nat) (h : ¬ i + 1 < cnt) (_hj : j < cnt) : nvb N cnt i j = nvb N cnt (i + 1) j := by
  unfold nvb
  by_cases h : j < i ∧ j + 1 < cnt
  · rw [if_pos h, if_pos (by omega)]
  · rw [if_neg h, if_neg (by omega)]
theorem pvb_pvm (N cnt j : Nat) (hj : j < cnt) : pvb N cnt j = pvm N 0 j := by
  unfold pvb pvm
  by_cases h : 0 < j
  · rw [if_pos h, if_pos ⟨h, hj⟩]
  · rw [if_neg h, if_neg (by omega)]
theorem nvb_nvm (N cnt j : Nat) (hj : j < cnt) : nvb N cnt cnt j = nvm N cnt 0 j := by
  unfold nvb nvm
  by_cases h : j + 1 < cnt
  · rw [if_pos ⟨hj, h⟩, if_pos ⟨by omega, h⟩]
  · rw [if_neg (by omega), if_neg (by omega)]
theorem neq_ptr (a : Addr) (w : World) : (binOp .neq 25 (.pointer (some a)) (.pointer (some a))).run Yba.prog w = .ok (.bool false) w := by
  have h2 : (Yba.prog.info? 28).map (·.size) = some 3 := by kernel_rfl
  obtain ⟨j, hj, _⟩ := Option.map_eq_some_iff.1 h2
  have h : ∀ d : Nat, (Op.equalIn (d + 1) 25 (.pointer (some a)) (.pointer (some a))).run Yba.prog w = .ok true w := fun d => by
    simp [Op.equalIn, run_underlying Yba.underlying25, sizeOf, typeInfo, hj, run_sameAddr_same]
  simp only [binOp]
  simp [Op.equal, Op.maxDepth, h 9999]
theorem QM.drewN {w wr : World} {cnt m : Nat} {pd : Int} (h : QM w cnt m pd wr) (n : Nat) : QM w cnt m pd (wr.drewN n) := ⟨h.ws.drewN n, h.q⟩
/-- A statement that only goes on: what follows a panic is not asked after. -/
theorem wp_strict {P : Program} {s : Code} {K : Act → World → Prop} {Q : Exit → Act → World → Prop} {a : Act} {w : World} (h : s.wp P (Exit.then K (fun _ _ _ => False)) a w) : s.wp P (Exit.then K Q) a w :=
  wp_mono h fun e _ _ q => by cases e <;> first | exact q | exact q.elim

theorem wp_strict2 {P : Program} {s : Code} {Q : Exit → Act → World → Prop} {a : Act} {w : World} (h : s.wp P (Exit.then (fun a w => Q .normal a w) (fun _ _ _ => False)) a w) : s.wp P Q a w :=
  wp_mono h fun e _ _ q => by cases e <;> first | exact q | exact q.elim

set_option maxRecDepth 100000 in
set_option maxHeartbeats 3200000 in
theorem fifo_mid (cnt wk : Nat) (p : Int) (w : World) (hc : cnt ≤ 300) (hk : wk ≤ 600) (hp0 : 0 ≤ p) (hp1 : p < 4294967296) :
    Calls Yba.prog 3 #[.int .u16 cnt, .int .u16 wk, .int .u32 p] w fun e w' => e = .returned (.bool true) ∧ Below w.heap.size w w' := by
  have hmk := run_make_row' (P := Yba.prog) 24 25 (.pointer none) 8 Yba.underlying24 Yba.info25 rfl .i64 .i64 cnt (by omega) (by omega)
  have hmc := mk26
  go_enter Yba.func3, Yba.ntmps3
  go_wp2
  clear hmk
  go_loopg [10] cnt (fun g i wr => ∃ t : Nat, t ≤ cnt ∧ g = cnt - t ∧ i = .int .i64 t ∧ wr.heap.size = w.heap.size + 1 + 2 * t ∧ WS w cnt t nils nils no wr)
  case atStart => exact ⟨0, Nat.zero_le _, rfl, rfl, by simp, WS.start w cnt _ _ _⟩
  case round =>
    obtain ⟨t, ht, rfl, rfl, hsz, hws⟩ := hrel
    have HW := hide hws
    clear hws
    by_cases hlt : t < cnt
    · obtain ⟨R, hR, hRs, _⟩ := HW.out.row
      have hRt : ∃ v, R[t]? = some v := ⟨R[t], Array.getElem?_eq_getElem (by omega)⟩
      obtain ⟨v, hv⟩ := hRt
      have r1 : ∀ o1 o2, ((wr.alloc o1).alloc o2).cell? ⟨w.heap.size, t, none⟩ = some v := fun o1 o2 => by
        rw [World.cell?_of_block (w := wr) (a := ⟨w.heap.size, t, none⟩) (by rw [Below.heap_alloc _ _ _ (by simp; omega), Below.heap_alloc _ _ _ (by simp; omega)])]
        exact cell_of hR hv
      have f1 : ∀ o1 o2, ((wr.alloc o1).alloc o2).frozen? ⟨w.heap.size, t, none⟩ = false := fun o1 o2 => by
        rw [World.frozen?_of_block (w := wr) (a := ⟨w.heap.size, t, none⟩) (by rw [Below.heap_alloc _ _ _ (by simp; omega), Below.heap_alloc _ _ _ (by simp; omega)])]
        exact frozen_of hR
      have HG := hide (HW.out.grow hsz hlt rfl rfl rfl)
      clear hR hRs hv
      go_wp2
      go_roundg (cnt - (t + 1))
      case measure => omega
      case rel =>
        have e : w.heap.size + 1 + 2 * t + 1 = w.heap.size + 2 + 2 * t := by omega
        rw [e]
        exact ⟨t + 1, by omega, rfl, by go_num, by simp; omega, HG.out⟩
    · obtain rfl : cnt = t := by omega
      clear hmc
      go_upto_region 10 with fail
      go_cut [11] from 29 to 39 (fun s wx => s = .int .i64 0 ∧ wx.heap.size = w.heap.size + 1 + 2 * cnt ∧ WS w cnt cnt (pvb w.heap.size 0) (nvb w.heap.size cnt 0) no wx)
      case first =>
        go_wp2
        go_meet
        case rel => exact ⟨rfl, hsz, HW.out.congr (fun j _ => (if_neg (by omega)).symm) (fun j _ => (if_neg (by omega)).symm) (fun _ _ => rfl)⟩
      case rest =>
        obtain ⟨rfl, hsz2, hws⟩ := hcut
        have HW2 := hide hws
        have HS2 := hide hsz2
        clear hws hsz2 hsz HW
        go_wp2
        go_loopg [11] cnt (fun g s wr => ∃ i : Nat, i ≤ cnt ∧ g = cnt - i ∧ s = .int .i64 i ∧ wr.heap.size = w.heap.size + 1 + 2 * cnt ∧ WS w cnt cnt (pvb w.heap.size i) (nvb w.heap.size cnt i) no wr)
        case atStart => exact ⟨0, Nat.zero_le _, rfl, rfl, HS2.out, HW2.out⟩
        case round =>
          obtain ⟨i, hi, rfl, rfl, hsz, hws⟩ := hrel
          clear HW2 HS2
          have HW := hide hws
          have HS := hide hsz
          clear hws hsz
          by_cases hlt : i < cnt
          · go_upto_if 46 with fail
            go_cut [11] from 40 to 72 (fun s wx => s = .int .i64 i ∧ wx.heap.size = w.heap.size + 1 + 2 * cnt ∧ WS w cnt cnt (pvb w.heap.size (i + 1)) (nvb w.heap.size cnt i) no wx)
            case first =>
              rcases i with _ | k
              · go_wp2
                go_meet
                case rel => exact ⟨rfl, HS.out, HW.out.congr (fun j _ => by unfold pvb; rw [if_neg (by omega), if_neg (by omega)]) (fun _ _ => rfl) (fun _ _ => rfl)⟩
              · have r1 := HW.out.at_ hlt
                have r0 := HW.out.at_ (j := k) (by omega)
                have c1 := HW.out.c1 hlt
                have f1 := HW.out.fz hlt 1
                have HP := hide ((HW.out.setP hlt (ptr (w.heap.size + 2 + 2 * k))).drew)
                go_upto_region 14 with fail
                refine wp_strict ?_
                go_region
                all_goals
                  go_wp2
                  go_meet
                  case rel => exact ⟨rfl, by simpa using HS.out, HP.out.congr (fun j _ => pvb_step _ _ _) (fun _ _ => rfl) (fun _ _ => rfl)⟩
            case rest =>
              obtain ⟨rfl, hsz, hws⟩ := hcut
              clear HW HS
              have HW := hide hws
              have HS := hide hsz
              clear hws hsz
              go_upto_if 61 with fail
              by_cases hnx : i + 1 < cnt
              · have r1 := HW.out.at_ hlt
                have r2 := HW.out.at_ hnx
                have c2 := HW.out.c2 hlt
                have f2 := HW.out.fz hlt 2
                have HP := hide ((HW.out.setN hlt (ptr (w.heap.size + 2 + 2 * (i + 1)))).drew)
                go_upto_region 16 with fail
                refine wp_strict2 ?_
                go_region
                all_goals
                  go_wp2
                  go_roundg (cnt - (i + 1))
                  case measure => omega
                  case rel => exact ⟨i + 1, by omega, rfl, by go_num, by simpa using HS.out, HP.out.congr (fun _ _ => rfl) (fun j _ => nvb_step _ _ _ _ hnx) (fun _ _ => rfl)⟩
              · go_wp2
                go_roundg (cnt - (i + 1))
                case measure => omega
                case rel => exact ⟨i + 1, by omega, rfl, by go_num, HS.out, HW.out.congr (fun _ _ => rfl) (fun j hj => nvb_last _ _ _ _ hnx hj) (fun _ _ => rfl)⟩
          · obtain rfl : cnt = i := by omega
            go_upto_if 77 with fail
            have hs := HS.out
            have QW : Hid (WS w cnt cnt (pvm w.heap.size 0) (nvm w.heap.size cnt 0) (bfm 0) wr) := HW.out.congr (fun j hj => pvb_pvm _ _ _ hj) (fun j hj => nvb_nvm _ _ _ hj) (fun j _ => by simp [no, bfm])
            go_cut [12] from 40 to 91 (fun s12 wx => s12 = ptr (w.heap.size + 1 + 2 * cnt) ∧ QM w cnt 0 p wx)
            case first =>
              by_cases h0 : 0 < cnt
              · have a0 : ∀ o, (wr.alloc o).cell? ⟨w.heap.size, 0, none⟩ = some (ptr (w.heap.size + 2 + 2 * 0)) := fun o => by
                  rw [World.cell?_of_block (w := wr) (a := ⟨w.heap.size, 0, none⟩) (Below.heap_alloc _ _ _ (by simp; omega))]; exact HW.out.at_ h0
                have a1 : ∀ o, (wr.alloc o).cell? ⟨w.heap.size, cnt - 1, none⟩ = some (ptr (w.heap.size + 2 + 2 * (cnt - 1))) := fun o => by
                  rw [World.cell?_of_block (w := wr) (a := ⟨w.heap.size, cnt - 1, none⟩) (Below.heap_alloc _ _ _ (by simp; omega))]; exact HW.out.at_ (by omega)
                have a2 : ∀ o, (wr.alloc o).cell? ⟨w.heap.size, ((cnt : Int) - 1).toNat, none⟩ = some (ptr (w.heap.size + 2 + 2 * (cnt - 1))) := fun o => by
                  rw [show ((cnt : Int) - 1).toNat = cnt - 1 by omega]; exact a1 o
                have h0z : (0 : Int) < cnt := by omega
                go_wp2
                go_meet
                case rel =>
                  refine ⟨by rw [← HS.out], QW.out.alloc _, ?_⟩
                  rw [show hdm w.heap.size cnt 0 = ptr (w.heap.size + 2 + 2 * 0) from if_pos h0, show tlm w.heap.size cnt 0 = ptr (w.heap.size + 2 + 2 * (cnt - 1)) from if_pos h0, ← HS.out]
                  exact heap_alloc_new wr _
              · have h0z : ¬ (0 : Int) < cnt := by omega
                go_wp2
                go_meet
                case rel =>
                  refine ⟨by rw [← HS.out], QW.out.alloc _, ?_⟩
                  rw [show hdm w.heap.size cnt 0 = nilP from if_neg h0, show tlm w.heap.size cnt 0 = nilP from if_neg h0, ← HS.out]
                  exact heap_alloc_new wr _
            case rest =>
              obtain ⟨rfl, hqm⟩ := hcut
              have HQ := hide hqm
              clear hqm QW hs HS HW
              go_wp2
              go_loopg [13] wk (fun g s wr => ∃ t : Nat, t ≤ wk ∧ g = wk - t ∧ s = .int .i64 t ∧ QM w cnt (min t cnt) ((p + ((t - min t cnt : Nat) : Int)) % 4294967296) wr)
              case atStart =>
                refine ⟨0, Nat.zero_le _, rfl, rfl, ?_⟩
                have e1 : min 0 cnt = 0 := by omega
                have e2 : (p + ((0 - min 0 cnt : Nat) : Int)) % 4294967296 = p := by rw [e1]; simp; omega
                rw [e2, e1]
                exact HQ.out
              case round =>
                obtain ⟨t, ht, rfl, rfl, hqm⟩ := hrel
                clear HQ
                have HQ := hide hqm
                clear hqm
                by_cases hlt : t < wk
                · go_wp2_with fail
                  by_cases hw : t < cnt
                  · have e1 : min t cnt = t := by omega
                    have e2 : min (t + 1) cnt = t + 1 := by omega
                    have h1 := HQ.out
                    rw [e1] at h1
                    refine (wake_one h1 hw).mono ?_
                    rintro e w' ⟨rfl, hq'⟩
                    have HQ' := hide hq'
                    have E2 := hide e2
                    clear hq' h1 e1 e2 HQ
                    go_wp2
                    go_roundg (wk - (t + 1))
                    case measure => omega
                    case rel =>
                      refine ⟨t + 1, by omega, rfl, by go_num, ?_⟩
                      rw [E2.out]
                      have := HQ'.out
                      simpa using this
                  · have e1 : min t cnt = cnt := by omega
                    have e2 : min (t + 1) cnt = cnt := by omega
                    have h1 := HQ.out
                    rw [e1] at h1
                    refine (wake_all h1).mono ?_
                    rintro e w' ⟨rfl, hq'⟩
                    have HQ' := hide hq'
                    have E2 := hide e2
                    clear hq' h1 e1 e2 HQ
                    go_wp2
                    go_roundg (wk - (t + 1))
                    case measure => omega
                    case rel =>
                      refine ⟨t + 1, by omega, rfl, by go_num, ?_⟩
                      rw [E2.out]
                      have e3 : ((p + ((t - cnt : Nat) : Int)) % 4294967296 + 1) % 4294967296 = (p + ((t + 1 - cnt : Nat) : Int)) % 4294967296 := by omega
                      rw [← e3]
                      exact HQ'.out
                · obtain rfl : wk = t := by omega
                  obtain ⟨M, hM⟩ : ∃ M, M = min wk cnt := ⟨_, rfl⟩
                  rw [← hM] at HQ
                  have hMc : M ≤ cnt := by omega
                  have hMw : M ≤ wk := by omega
                  have HMM := hide hM
                  clear hM
                  go_upto_if 102 with fail
                  go_cut [14] from 92 to 114 (fun s14 wx => wx = wr ∧ s14 = .int .i64 M)
                  case first =>
                    by_cases hgt : cnt < wk
                    · obtain rfl : M = cnt := by have := HMM.out; omega
                      go_wp2
                      go_meet
                      case rel => exact ⟨rfl, rfl⟩
                    · obtain rfl : M = wk := by have := HMM.out; omega
                      go_wp2
                      go_meet
                      case rel => exact ⟨rfl, rfl⟩
                  case rest =>
                    obtain ⟨hwx, rfl⟩ := hcut
                    subst hwx
                    clear HMM
                    obtain ⟨pd, hpd⟩ : ∃ pd, pd = (p + ((wk - M : Nat) : Int)) % 4294967296 := ⟨_, rfl⟩
                    rw [← hpd] at HQ
                    have q1 := cell_of (o := 1) HQ.out.q (v := .int .u32 pd) rfl
                    have q0 := cell_of (o := 0) HQ.out.q (v := .int .u32 0) rfl
                    have q2 := cell_of (o := 2) HQ.out.q (v := hdm w.heap.size cnt M) rfl
                    have q3 := cell_of (o := 3) HQ.out.q (v := tlm w.heap.size cnt M) rfl
                    have hb : (pd != (p + ((wk : Int) - (M : Int))) % 4294967296) = false := by
                      have e : ((wk - M : Nat) : Int) = (wk : Int) - (M : Int) := by omega
                      rw [hpd, e]; simp
                    clear hpd
                    go_upto_if 121 with (go_at_call 6; refine (load_any _ 0 _ q0).mono ?_; rintro e w' ⟨rfl, rfl⟩)
                    clear hb q0 q1
                    go_cut [14] from 92 to 154 (fun s wx => s = .int .i64 M ∧ QM w cnt M pd wx)
                    case first =>
                      by_cases hl : M < cnt
                      · rw [show hdm w.heap.size cnt M = ptr (w.heap.size + 2 + 2 * M) from if_pos hl] at q2
                        rw [show tlm w.heap.size cnt M = ptr (w.heap.size + 2 + 2 * (cnt - 1)) from if_pos hl] at q3
                        have r1 := HQ.out.ws.at_ hl
                        have r2 := HQ.out.ws.at_ (j := cnt - 1) (by omega)
                        have r3 : w'.cell? ⟨w.heap.size, ((cnt : Int) - 1).toNat, none⟩ = some (ptr (w.heap.size + 2 + 2 * (cnt - 1))) := by
                          rw [show ((cnt : Int) - 1).toNat = cnt - 1 by omega]; exact r2
                        have hnq := neq_ptr
                        go_upto_region 33 with fail
                        go_quiet (fail)
                        go_wp2
                        go_meet
                        case rel => exact ⟨rfl, HQ.out.drewN _⟩
                      · rw [show hdm w.heap.size cnt M = nilP from if_neg hl] at q2
                        rw [show tlm w.heap.size cnt M = nilP from if_neg hl] at q3
                        go_wp2
                        go_meet
                        case rel => exact ⟨rfl, HQ.out⟩
                    case rest =>
                      obtain ⟨rfl, hqm⟩ := hcut
                      clear q2 q3 HQ
                      have HQ := hide hqm
                      clear hqm
                      go_wp2
                      go_loopg [15] cnt (fun g s wr => ∃ i : Nat, i ≤ cnt ∧ g = cnt - i ∧ s = .int .i64 i ∧ QM w cnt M pd wr)
                      case atStart => exact ⟨0, Nat.zero_le _, rfl, rfl, HQ.out⟩
                      case round =>
                        obtain ⟨i, hi, rfl, rfl, hqm⟩ := hrel
                        clear HQ
                        have HQ := hide hqm
                        clear hqm
                        by_cases hlt : i < cnt
                        · have r1 := HQ.out.ws.at_ hlt
                          have c0 := HQ.out.ws.c0 hlt
                          have c1 := HQ.out.ws.c1 hlt
                          have c2 := HQ.out.ws.c2 hlt
                          obtain ⟨sx, rx, hch⟩ := HQ.out.ws.chan i hlt
                          have hlen := fun ty => run_len_chan (P := Yba.prog) 26 ty Yba.underlying26 hch
                          clear hch
                          by_cases hiM : i < M
                          · rw [show cbuf (bfm M i) = #[.agg #[]] by simp [bfm, cbuf, hiM]] at hlen
                            rw [show pvm w.heap.size M i = nilP from if_neg (by omega)] at c1
                            rw [show nvm w.heap.size cnt M i = nilP from if_neg (by omega)] at c2
                            simp only [goInt, List.size_toArray, List.length_cons, List.length_nil] at hlen
                            go_wp2
                            go_roundg (cnt - (i + 1))
                            case measure => omega
                            case rel => exact ⟨i + 1, by omega, rfl, by go_num, HQ.out⟩
                          · rw [show cbuf (bfm M i) = #[] by simp [bfm, cbuf, hiM]] at hlen
                            simp only [goInt, List.size_toArray, List.length_nil] at hlen
                            go_upto_if 195 with fail
                            go_cut [15, 16] from 155 to 229 (fun s15 s16 wx => s15 = .int .i64 i ∧ s16 = ptr (w.heap.size + 2 + 2 * i) ∧ QM w cnt M pd wx)
                            case first =>
                              by_cases hgt : M < i
                              · obtain ⟨k, rfl⟩ : ∃ k, i = k + 1 := ⟨i - 1, by omega⟩
                                rw [show pvm w.heap.size M (k + 1) = ptr (w.heap.size + 2 + 2 * k) by unfold pvm; rw [if_pos hgt]; simp] at c1
                                have r0 := HQ.out.ws.at_ (j := k) (by omega)
                                have hnq := neq_ptr
                                go_upto_region 47 with fail
                                go_quiet (fail)
                                go_wp2
                                go_meet
                                case rel => exact ⟨rfl, rfl, HQ.out.drewN _⟩
                              · rw [show pvm w.heap.size M i = nilP from if_neg hgt] at c1
                                go_wp2
                                go_meet
                                case rel => exact ⟨rfl, rfl, HQ.out⟩
                            case rest =>
                              obtain ⟨rfl, rfl, hqm⟩ := hcut
                              clear HQ r1 c0 c1 c2 hlen
                              have HQ := hide hqm
                              clear hqm
                              have c2 := HQ.out.ws.c2 hlt
                              by_cases hnx : i + 1 < cnt
                              · rw [show nvm w.heap.size cnt M i = ptr (w.heap.size + 2 + 2 * (i + 1)) from if_pos ⟨by omega, hnx⟩] at c2
                                have r2 := HQ.out.ws.at_ hnx
                                have hnq := neq_ptr
                                go_upto_region 52 with fail
                                go_quiet (fail)
                                go_wp2
                                go_roundg (cnt - (i + 1))
                                case measure => omega
                                case rel => exact ⟨i + 1, by omega, rfl, by go_num, HQ.out.drewN _⟩
                              · rw [show nvm w.heap.size cnt M i = nilP from if_neg (by omega)] at c2
                                go_wp2
                                go_roundg (cnt - (i + 1))
                                case measure => omega
                                case rel => exact ⟨i + 1, by omega, rfl, by go_num, HQ.out⟩
                        · go_wp2
                          go_ret
                          exact ⟨rfl, HQ.out.ws.below⟩

set_option maxRecDepth 100000 in
theorem fifo_walk (a0 a1 a2 : Int) (w : World) (h0 : 0 ≤ a0) (h1 : 0 ≤ a1) (h2 : 0 ≤ a2) (h3 : a2 < 4294967296) :
    Calls Yba.prog 3 #[.int .u16 a0, .int .u16 a1, .int .u32 a2] w fun e w' => e = .returned (.bool true) ∧ Below w.heap.size w w' := by
  by_cases hn : 300 < a0
  · go_enter Yba.func3, Yba.ntmps3
    go_wp2
    go_ret
    exact ⟨rfl, Below.refl _ _⟩
  by_cases hk : 600 < a1
  · go_enter Yba.func3, Yba.ntmps3
    go_wp2
    go_ret
    exact ⟨rfl, Below.refl _ _⟩
  obtain ⟨cnt, rfl⟩ : ∃ n : Nat, a0 = n := ⟨a0.toNat, by omega⟩
  obtain ⟨wk, rfl⟩ : ∃ n : Nat, a1 = n := ⟨a1.toNat, by omega⟩
  exact fifo_mid cnt wk a2 w (by omega) (by omega) h2 h3
end Go.Proofs.Ybulkaboq
