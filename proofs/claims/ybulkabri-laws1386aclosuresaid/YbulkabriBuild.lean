/-
  zzs1386abuild: the plain functions that it computes, and its walk.
-/
import Derived.Test.YbulkabriBoard
namespace Go.Proofs.Ybulkabri
open Go.RowKit

/-- The vertex of point j on a board of n rows. -/
def pt (n j : Nat) : Nat := (j / n + 1) * (n + 2) + j % n + 1
/-- The colours, once the points below T have theirs. -/
def colT (n len : Nat) (zs : List Int) : Nat → Nat → Int
  | 0 => fun _ => 3
  | T + 1 => fun i => if i = pt n T then cellAt len zs T % 3 else colT n len zs T i
/-- The first and the last point of key k among the points below T (none: there is none), and the links. -/
def linkT (n len : Nat) (zs : List Int) (k : Nat) (nx : Nat → Nat) : Nat → Option (Nat × Nat) × (Nat → Nat)
  | 0 => (none, nx)
  | T + 1 =>
    let st := linkT n len zs k nx T
    if keyAt len zs T = k then
      match st.1 with
      | none => (some (pt n T, pt n T), st.2)
      | some (f, p) => (some (f, pt n T), fun j => if j = p then pt n T else st.2 j)
    else st
/-- One ring closed. -/
def ringK (n len : Nat) (zs : List Int) (k : Nat) (nx : Nat → Nat) : Nat → Nat :=
  let st := linkT n len zs k nx (n * n)
  match st.1 with
  | none => st.2
  | some (f, p) => fun j => if j = p then f else st.2 j
def links (n len : Nat) (zs : List Int) : Nat → Nat → Nat
  | 0 => fun _ => 0
  | k + 1 => ringK n len zs k (links n len zs k)
def fstV (o : Option (Nat × Nat)) : Int := match o with | none => -1 | some (f, _) => f
def sndV (o : Option (Nat × Nat)) : Int := match o with | none => -1 | some (_, p) => p
/-- Both lie on the board. -/
def OkO (m : Nat) (o : Option (Nat × Nat)) : Prop := ∀ f p, o = some (f, p) → f < m ∧ p < m

theorem IsRow.drew {k : IntKind} {w : World} {a : Option Addr} {len cap : Nat} {zs : List Int} (h : IsRow k w a len cap zs) : IsRow k w.drew a len cap zs := h
theorem wrap_n (p : Nat) (h : p < 1000) : IntKind.i64.wrap (p : Int) = p := by
  simp only [IntKind.wrap, IntKind.bits, IntKind.signed, Bool.true_and]
  rw [if_neg (by simp; omega)]
  omega
theorem wrap2 (p c : Nat) (hp : p < 1000) (hc : p + c < 1000) : IntKind.i64.wrap (IntKind.i64.wrap (p : Int) + c) = ((p + c : Nat) : Int) := by
  rw [wrap_n p hp, ← Int.natCast_add, wrap_n _ hc]
theorem pt_at {n : Nat} (r : Nat) {c : Nat} (h : c < n) : pt n (r * n + c) = (r + 1) * (n + 2) + c + 1 := by
  unfold pt
  rw [Nat.add_comm (r * n) c, Nat.add_mul_div_right _ _ (by omega), Nat.add_mul_mod_self_right, Nat.div_eq_of_lt h, Nat.mod_eq_of_lt h, Nat.zero_add]

theorem row_facts {n s m : Nat} (r : Nat) (hr : r < n) (hs : (n : Int) + 2 = s) (hm : (s : Int) * s = m) : (r + 1) * s + n + s ≤ m ∧ r * n + n ≤ n * n ∧ (∀ c, c < n → pt n (r * n + c) = (r + 1) * s + c + 1) ∧ r * n + n = (r + 1) * n := by
  have e1 : s = n + 2 := by omega
  have e2 : s * s = m := by exact_mod_cast hm
  have e3 : (r + 1) * s ≤ n * s := Nat.mul_le_mul_right _ (by omega)
  have e4 : s * s = n * s + 2 * s := by rw [← Nat.add_mul, ← e1]
  have e5 : (r + 1) * n ≤ n * n := Nat.mul_le_mul_right _ (by omega)
  have e6 : (r + 1) * n = r * n + n := by rw [Nat.add_mul, Nat.one_mul]
  refine ⟨by omega, by omega, fun c hc => ?_, e6.symm⟩
  rw [pt_at r hc, e1]
theorem pt_lt {n s m j : Nat} (hs : (n : Int) + 2 = s) (hm : (s : Int) * s = m) (hj : j < n * n) : pt n j < m := by
  rcases Nat.eq_zero_or_pos n with rfl | hn
  · omega
  have h1 : j / n < n := Nat.div_lt_of_lt_mul hj
  have h2 : j % n < n := Nat.mod_lt _ hn
  have h3 := (row_facts (j / n) h1 hs hm)
  have h4 := h3.2.2.1 (j % n) h2
  rw [show j / n * n + j % n = j by rw [Nat.mul_comm]; exact Nat.div_add_mod j n] at h4
  omega
theorem linkT_ok {n s m : Nat} (hs : (n : Int) + 2 = s) (hm : (s : Int) * s = m) (len : Nat) (zs : List Int) (k : Nat) (nx : Nat → Nat) : ∀ T, T ≤ n * n → OkO m (linkT n len zs k nx T).1
  | 0, _ => by intro f p h; cases h
  | T + 1, hT => by
    intro f p h
    have ih := linkT_ok hs hm len zs k nx T (by omega)
    have hp := pt_lt hs hm (show T < n * n by omega)
    simp only [linkT] at h
    split at h
    · split at h
      · cases h; exact ⟨hp, hp⟩
      · rename_i f' p' e
        cases h
        exact ⟨(ih _ _ e).1, hp⟩
    · exact ih _ _ h
theorem key_bd (d : Int) : -1 ≤ keyOfCell d ∧ keyOfCell d ≤ 7 := by
  unfold keyOfCell
  split <;> omega

set_option maxRecDepth 100000 in
set_option maxHeartbeats 800000 in
theorem build_walk (a : Option Addr) (len cap : Nat) (zs : List Int) (n s m : Nat) (w : World) (h : IsRow .u8 w a len cap zs) (hn2 : 2 ≤ n) (hn : n ≤ 25) (hs : (n : Int) + 2 = s) (hm : (s : Int) * s = m) (hm1 : m ≤ 729) :
    Calls Yba.prog 5 #[.int .i64 n, .slice a len cap] w fun e w' => e = .returned (.pointer (some ⟨w.heap.size + 1, 0, none⟩)) ∧ BD w (w.heap.size + 1) w.heap.size n s m (colT n len zs (n * n)) (links n len zs 8) w' := by
  have hmk := mk35 m (by omega)
  have hs0 : (s : Int) ≤ 27 := by omega
  have hs1 : 4 ≤ (s : Int) := by omega
  have hnn : n * n < m := by
    have e1 : s = n + 2 := by omega
    subst e1
    have e2 : (n + 2) * (n + 2) = m := by exact_mod_cast hm
    have e3 : (n + 2) * (n + 2) = n * n + 4 * n + 4 := by rw [Nat.mul_add, Nat.add_mul]; omega
    omega
  have HI := hide h
  clear h
  go_enter Yba.func5, Yba.ntmps5
  go_upto_region 3 with fail
  have B0 := hide (BD.start w n s m)
  obtain ⟨N, hN⟩ : ∃ N, N = w.heap.size := ⟨_, rfl⟩
  rw [← hN] at B0
  go_cut [4, 5, 6, 7] from 17 to 26 (fun s4 s5 s6 s7 wx => s4 = .pointer none ∧ s7 = .int .i64 0 ∧ s5 = .int .i64 s ∧ s6 = .pointer (some ⟨N + 1, 0, none⟩) ∧ BD w (N + 1) N n s m (fun _ => 0) (fun _ => 0) wx)
  case first =>
    go_wp2
    go_meet
    case rel => subst hN; exact ⟨rfl, rfl, rfl, rfl, B0.out⟩
  case rest =>
    obtain ⟨rfl, rfl, rfl, rfl, hb⟩ := hcut
    clear B0
    have HN := hide hN
    clear hN
    have BC := hide hb
    clear hb hmk
    go_wp2
    go_loopg [7] m (fun g s7 wr => ∃ t : Nat, t ≤ m ∧ g = m - t ∧ s7 = .int .i64 t ∧ BD w (N + 1) N n s m (fun i => if i < t then 3 else 0) (fun _ => 0) wr)
    case atStart => exact ⟨0, Nat.zero_le _, rfl, rfl, BC.out⟩
    case round =>
      obtain ⟨t, ht, rfl, rfl, hb⟩ := hrel
      clear BC
      have hv := hb.verts
      have BR := hide hb
      clear hb
      by_cases hlt : t < m
      · have hz := BR.out.vs.fz (t * 9)
        obtain ⟨c0, hc⟩ : ∃ c0, wr.cell? ⟨N, t * 9, none⟩ = some (.int .i8 c0) := ⟨_, BR.out.vs.colour hlt⟩
        have B2 := hide (BR.out.setC hlt 3)
        go_wp2
        go_roundg (m - (t + 1))
        case measure => omega
        case rel =>
          refine ⟨t + 1, by omega, rfl, by go_num, B2.out.congr (fun i _ => ?_) fun _ _ => rfl⟩
          by_cases e : i = t
          · subst e; simp
          · by_cases e2 : i < t
            · simp [e, e2, show i < t + 1 by omega]
            · simp [e, e2, show ¬ i < t + 1 by omega]
      · obtain rfl : t = m := by omega
        have B1 : Hid (BD w (N + 1) N n s t (colT n len zs 0) (fun _ => 0) wr) := BR.out.congr (fun i hi => by simp [hi, colT]) fun _ _ => rfl
        clear BR
        go_upto_region 7 with fail
        go_cut [8] from 27 to 42 (fun s8 wx => s8 = .int .i64 0 ∧ BD w (N + 1) N n s t (colT n len zs 0) (fun _ => 0) wx)
        case first =>
          go_wp2
          go_meet
          case rel => exact ⟨rfl, B1.out⟩
        case rest =>
          obtain ⟨rfl, hb⟩ := hcut
          have BC := hide hb
          clear hb B1 hv hlt ht
          go_wp2
          go_loopg [8] n (fun g s8 wr => ∃ r : Nat, r ≤ n ∧ g = n - r ∧ s8 = .int .i64 r ∧ BD w (N + 1) N n s t (colT n len zs (r * n)) (fun _ => 0) wr)
          case atStart => exact ⟨0, Nat.zero_le _, rfl, rfl, by rw [Nat.zero_mul]; exact BC.out⟩
          case round =>
            obtain ⟨r, hr, rfl, rfl, hb⟩ := hrel
            clear BC
            have BR := hide hb
            clear hb
            by_cases hlt : r < n
            · have hrf := row_facts r hlt hs hm
              obtain ⟨p, hp⟩ : ∃ p : Nat, p = r * n := ⟨_, rfl⟩
              obtain ⟨q, hq⟩ : ∃ q : Nat, q = (r + 1) * s := ⟨_, rfl⟩
              have hpI : (r : Int) * n = p := by rw [hp]; simp
              have hqI : ((r : Int) + 1) * s = q := by rw [hq]; simp
              rw [← hp, ← hq] at hrf
              obtain ⟨hqm, hpm0, hpt, hpn⟩ := hrf
              have hpm : p + n < t := by omega
              clear hpm0
              rw [← hp] at BR
              have HPT := hide hpt
              have HPN := hide hpn
              clear hpt hp hq hpn
              go_upto_region 10 with fail
              go_cut [9] from 43 to 75 (fun s9 wx => s9 = .int .i64 0 ∧ BD w (N + 1) N n s t (colT n len zs p) (fun _ => 0) wx)
              case first =>
                go_wp2
                go_meet
                case rel => exact ⟨rfl, BR.out⟩
              case rest =>
                obtain ⟨rfl, hb⟩ := hcut
                have BC := hide hb
                clear hb BR
                go_wp2
                go_loopg [9] n (fun g s9 wr => ∃ c : Nat, c ≤ n ∧ g = n - c ∧ s9 = .int .i64 c ∧ BD w (N + 1) N n s t (colT n len zs (p + c)) (fun _ => 0) wr)
                case atStart => exact ⟨0, Nat.zero_le _, rfl, rfl, BC.out⟩
                case round =>
                  obtain ⟨c, hc, rfl, rfl, hb⟩ := hrel
                  clear BC
                  have hv := hb.verts
                  have BR := hide hb
                  clear hb
                  by_cases hcn : c < n
                  · have hz := BR.out.vs.fz ((q + c + 1) * 9)
                    obtain ⟨c0, hc0⟩ : ∃ c0, wr.cell? ⟨N, (q + c + 1) * 9, none⟩ = some (.int .i8 c0) := ⟨_, BR.out.vs.colour (by omega)⟩
                    have hcd := cell_bd HI.out (p + c)
                    have HR := hide (HI.out.later BR.out.below)
                    obtain ⟨d, hd⟩ : ∃ d, d = cellAt len zs (p + c) := ⟨_, rfl⟩
                    rw [← hd] at hcd
                    have HD := hide hd
                    obtain ⟨hd0, hd1⟩ := hcd
                    clear hd
                    have HW := hide (wrap2 p c (by omega) (by omega))
                    go_upto_region 14 with fail
                    go_region_with (go_at_call 8; rw [HW.out]; refine (acell_any a len cap zs (p + c) _ HR.out.drew).mono ?_; rw [← HD.out]; rintro e w' ⟨rfl, rfl⟩)
                    all_goals
                      go_wp2
                      go_roundg (n - (c + 1))
                      case measure => omega
                      case rel =>
                        refine ⟨c + 1, by omega, rfl, by go_num, ?_⟩
                        have hb := (BR.out.setC (i := q + c + 1) (by omega) (d % 3)).drew
                        rw [HD.out, ← HPT.out c hcn] at hb
                        rw [HD.out, ← HPT.out c hcn]
                        exact hb
                  · obtain rfl : c = n := by omega
                    have B2 := hide BR.out
                    rw [HPN.out] at B2
                    clear BR hv
                    go_wp2
                    go_roundg (c - (r + 1))
                    case measure => omega
                    case rel => exact ⟨r + 1, by omega, rfl, by go_num, B2.out⟩
            · obtain rfl : r = n := by omega
              go_upto_region 15 with fail
              go_cut [11] from 43 to 75 (fun s11 wx => s11 = .int .i64 0 ∧ BD w (N + 1) N r s t (colT r len zs (r * r)) (links r len zs 0) wx)
              case first =>
                go_wp2
                go_meet
                case rel => exact ⟨rfl, BR.out⟩
              case rest =>
                obtain ⟨rfl, hb⟩ := hcut
                have BC := hide hb
                clear hb BR hlt hr
                go_wp2
                go_loopg [11] 8 (fun g s11 wr => ∃ k : Nat, k ≤ 8 ∧ g = 8 - k ∧ s11 = .int .i64 k ∧ BD w (N + 1) N r s t (colT r len zs (r * r)) (links r len zs k) wr)
                case atStart => exact ⟨0, Nat.zero_le _, rfl, rfl, BC.out⟩
                case round =>
                  obtain ⟨k, hk, rfl, rfl, hb⟩ := hrel
                  clear BC
                  have BR := hide hb
                  clear hb
                  by_cases hk8 : k < 8
                  · go_upto_region 19 with fail
                    go_cut [12, 13, 14] from 76 to 129 (fun s12 s13 s14 wx => s12 = .int .i64 (-1) ∧ s13 = .int .i64 (-1) ∧ s14 = .int .i64 0 ∧ BD w (N + 1) N r s t (colT r len zs (r * r)) (links r len zs k) wx)
                    case first =>
                      go_wp2
                      go_meet
                      case rel => exact ⟨rfl, rfl, rfl, BR.out⟩
                    case rest =>
                      obtain ⟨rfl, rfl, rfl, hb⟩ := hcut
                      have BC := hide hb
                      clear hb BR
                      obtain ⟨nx, hnx⟩ : ∃ nx, nx = links r len zs k := ⟨_, rfl⟩
                      rw [← hnx] at BC
                      have HNX := hide hnx
                      clear hnx
                      go_wp2
                      go_loopg [12, 13, 14] r (fun g s12 s13 s14 wr => ∃ x : Nat, x ≤ r ∧ g = r - x ∧ s14 = .int .i64 x ∧ s12 = .int .i64 (fstV (linkT r len zs k nx (x * r)).1) ∧ s13 = .int .i64 (sndV (linkT r len zs k nx (x * r)).1) ∧ BD w (N + 1) N r s t (colT r len zs (r * r)) (linkT r len zs k nx (x * r)).2 wr)
                      case atStart => exact ⟨0, Nat.zero_le _, rfl, rfl, by rw [Nat.zero_mul]; rfl, by rw [Nat.zero_mul]; rfl, by rw [Nat.zero_mul]; exact BC.out⟩
                      case round =>
                        obtain ⟨x, hx, rfl, rfl, rfl, rfl, hb⟩ := hrel
                        clear BC
                        have BR := hide hb
                        clear hb
                        by_cases hlt : x < r
                        · have hrf := row_facts x hlt hs hm
                          obtain ⟨p, hp⟩ : ∃ p : Nat, p = x * r := ⟨_, rfl⟩
                          obtain ⟨q, hq⟩ : ∃ q : Nat, q = (x + 1) * s := ⟨_, rfl⟩
                          have hpI : (x : Int) * r = p := by rw [hp]; simp
                          have hqI : ((x : Int) + 1) * s = q := by rw [hq]; simp
                          rw [← hp, ← hq] at hrf
                          obtain ⟨hqm, hpm0, hpt, hpn⟩ := hrf
                          have hpm : p + r < t := by omega
                          rw [← hp] at BR
                          have HPT := hide hpt
                          have HPN := hide hpn
                          have HPM := hide hpm0
                          rw [← hp]
                          clear hpt hp hq hpn hpm0
                          go_upto_region 22 with fail
                          go_cut [12, 13, 15] from 80 to 118 (fun s12 s13 s15 wx => s12 = .int .i64 (fstV (linkT r len zs k nx p).1) ∧ s13 = .int .i64 (sndV (linkT r len zs k nx p).1) ∧ s15 = .int .i64 0 ∧ BD w (N + 1) N r s t (colT r len zs (r * r)) (linkT r len zs k nx p).2 wx)
                          case first =>
                            go_wp2
                            go_meet
                            case rel => exact ⟨rfl, rfl, rfl, BR.out⟩
                          case rest =>
                            obtain ⟨rfl, rfl, rfl, hb⟩ := hcut
                            have BC := hide hb
                            clear hb BR
                            go_wp2
                            go_loopg [12, 13, 15] r (fun g s12 s13 s15 wr => ∃ c : Nat, c ≤ r ∧ g = r - c ∧ s15 = .int .i64 c ∧ s12 = .int .i64 (fstV (linkT r len zs k nx (p + c)).1) ∧ s13 = .int .i64 (sndV (linkT r len zs k nx (p + c)).1) ∧ BD w (N + 1) N r s t (colT r len zs (r * r)) (linkT r len zs k nx (p + c)).2 wr)
                            case atStart => exact ⟨0, Nat.zero_le _, rfl, rfl, rfl, rfl, BC.out⟩
                            case round =>
                              obtain ⟨c, hc, rfl, rfl, rfl, rfl, hb⟩ := hrel
                              clear BC
                              have hv := hb.verts
                              have BR := hide hb
                              clear hb
                              by_cases hcn : c < r
                              · have HR := hide (HI.out.later BR.out.below)
                                have hok := linkT_ok hs hm len zs k nx (p + c) (by have := HPM.out; omega)
                                have hkb := key_bd (cellAt len zs (p + c))
                                obtain ⟨κ, hκ⟩ : ∃ κ, κ = keyAt len zs (p + c) := ⟨_, rfl⟩
                                have HK := hide hκ
                                rw [show keyOfCell (cellAt len zs (p + c)) = κ from hκ.symm] at hkb
                                obtain ⟨hk0, hk1⟩ := hkb
                                have hstep : linkT r len zs k nx (p + (c + 1)) = (let st := linkT r len zs k nx (p + c); if κ = k then match st.1 with | none => (some (pt r (p + c), pt r (p + c)), st.2) | some (f, pv) => (some (f, pt r (p + c)), fun j => if j = pv then pt r (p + c) else st.2 j) else st) := by rw [hκ]; rfl
                                rw [HPT.out c hcn] at hstep
                                clear hκ
                                obtain ⟨L, hL⟩ : ∃ L, L = linkT r len zs k nx (p + c) := ⟨_, rfl⟩
                                rw [← hL] at hstep hok BR
                                obtain ⟨o, nl⟩ := L
                                rw [← hL]
                                have HST := hide hstep
                                clear hstep hL
                                by_cases hkk : κ = k
                                · have hne : (κ != (k : Int)) = false := by simp [hkk]
                                  have HS2 := hide HST.out
                                  rw [if_pos hkk] at HS2
                                  have HKK := hide hkk
                                  clear hkk HST
                                  rcases o with _ | ⟨f, pv⟩
                                  · simp only [fstV, sndV]
                                    go_wp2_with fail
                                    rw [← Int.natCast_add]
                                    refine (akey_any a len cap zs (p + c) _ HR.out).mono ?_
                                    rw [← HK.out]
                                    rintro e w' ⟨rfl, rfl⟩
                                    go_wp2
                                    go_roundg (r - (c + 1))
                                    case measure => omega
                                    case rel =>
                                      refine ⟨c + 1, by omega, rfl, by go_num, ?_, ?_, ?_⟩
                                      all_goals rw [HS2.out]
                                      · simp [fstV]
                                      · simp [sndV]
                                      · exact BR.out
                                  · have hof := hok _ _ rfl
                                    obtain ⟨hof1, hof2⟩ := hof
                                    have hz := BR.out.vs.fz (pv * 9 + 2)
                                    obtain ⟨c0, hc0⟩ : ∃ c0, wr.cell? ⟨N, pv * 9 + 2, none⟩ = some (.int .i16 c0) := ⟨_, BR.out.vs.next hof2⟩
                                    have B2 := hide (BR.out.setN hof2 (q + c + 1))
                                    simp only [fstV, sndV]
                                    go_wp2_with fail
                                    rw [← Int.natCast_add]
                                    refine (akey_any a len cap zs (p + c) _ HR.out).mono ?_
                                    rw [← HK.out]
                                    rintro e w' ⟨rfl, rfl⟩
                                    go_wp2
                                    go_roundg (r - (c + 1))
                                    case measure => omega
                                    case rel =>
                                      refine ⟨c + 1, by omega, rfl, by go_num, ?_, ?_, ?_⟩
                                      all_goals rw [HS2.out]
                                      · rfl
                                      · simp [sndV]
                                      · simpa using B2.out
                                · have hne : (κ != (k : Int)) = true := by simpa using hkk
                                  have HS2 := hide HST.out
                                  rw [if_neg hkk] at HS2
                                  have HKK := hide hkk
                                  clear hkk HST
                                  go_wp2_with fail
                                  rw [← Int.natCast_add]
                                  refine (akey_any a len cap zs (p + c) _ HR.out).mono ?_
                                  rw [← HK.out]
                                  rintro e w' ⟨rfl, rfl⟩
                                  go_wp2
                                  go_roundg (r - (c + 1))
                                  case measure => omega
                                  case rel =>
                                    refine ⟨c + 1, by omega, rfl, by go_num, ?_, ?_, ?_⟩
                                    all_goals rw [HS2.out]
                                    exact BR.out
                              · obtain rfl : c = r := by omega
                                have B2 := hide BR.out
                                rw [HPN.out] at B2
                                clear BR hv
                                go_wp2
                                go_roundg (c - (x + 1))
                                case measure => omega
                                case rel => exact ⟨x + 1, by omega, rfl, by go_num, by rw [HPN.out], by rw [HPN.out], B2.out⟩
                        · obtain rfl : x = r := by omega
                          have hv := BR.out.verts
                          have hok := linkT_ok hs hm len zs k nx (x * x) (Nat.le_refl _)
                          have HRK : Hid (links x len zs (k + 1) = match (linkT x len zs k nx (x * x)).1 with | none => (linkT x len zs k nx (x * x)).2 | some (f, pv) => fun j => if j = pv then f else (linkT x len zs k nx (x * x)).2 j) := by rw [HNX.out]; rfl
                          obtain ⟨L, hL⟩ : ∃ L, L = linkT x len zs k nx (x * x) := ⟨_, rfl⟩
                          rw [← hL] at hok BR HRK
                          obtain ⟨o, nl⟩ := L
                          rw [← hL]
                          clear hL
                          rcases o with _ | ⟨f, pv⟩
                          · simp only [fstV, sndV]
                            go_wp2
                            go_roundg (8 - (k + 1))
                            case measure => omega
                            case rel => exact ⟨k + 1, by omega, rfl, by go_num, by rw [HRK.out]; exact BR.out⟩
                          · obtain ⟨hof1, hof2⟩ := hok _ _ rfl
                            have hz := BR.out.vs.fz (pv * 9 + 2)
                            obtain ⟨c0, hc0⟩ : ∃ c0, wr.cell? ⟨N, pv * 9 + 2, none⟩ = some (.int .i16 c0) := ⟨_, BR.out.vs.next hof2⟩
                            have B2 := hide (BR.out.setN hof2 f)
                            simp only [fstV, sndV]
                            go_wp2
                            go_roundg (8 - (k + 1))
                            case measure => omega
                            case rel => exact ⟨k + 1, by omega, rfl, by go_num, by rw [HRK.out]; exact B2.out⟩
                  · go_wp2
                    go_ret
                    obtain rfl : k = 8 := by omega
                    exact ⟨by rw [HN.out]; rfl, by rw [← HN.out]; exact BR.out⟩
end Go.Proofs.Ybulkabri
