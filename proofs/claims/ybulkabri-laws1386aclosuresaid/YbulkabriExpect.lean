/-
  zzs1386aexpect.
-/
import Derived.Test.YbulkabriAround
import Derived.Deep.WholeRow
import Derived.Laws.CopyOwn
namespace Go.Proofs.Ybulkabri
open Go.RowKit

/-! ### plain -/
/-- The point next to (r, c), of the four, where it lies on the board. -/
def nbp (n r c : Nat) : Nat → Option Nat
  | 0 => if 0 < c then some (r * n + c - 1) else none
  | 1 => if c + 1 < n then some (r * n + c + 1) else none
  | 2 => if 0 < r then some ((r - 1) * n + c) else none
  | _ => if r + 1 < n then some ((r + 1) * n + c) else none
/-- All points of key k below T. -/
def expK (n len : Nat) (zs : List Int) (k : Int) (E : Nat → Nat) : Nat → Nat → Nat
  | 0 => E
  | T + 1 => if keyAt len zs T = k then addS (expK n len zs k E T) (pt n T) else expK n len zs k E T
theorem expK_fits {n len : Nat} {zs : List Int} {k : Int} {E : Nat → Nat} (h : Fits E) : ∀ T, Fits (expK n len zs k E T)
  | 0 => h
  | T + 1 => by
    have := expK_fits (n := n) (len := len) (zs := zs) (k := k) h T
    simp only [expK]
    split
    · exact this.add _
    · exact this
def expStep (n len : Nat) (zs : List Int) (R E : Nat → Nat) (o : Option Nat) : Nat → Nat :=
  match o with
  | none => E
  | some j => if keyAt len zs j < 0 ∨ mem R (pt n j) = true then E else expK n len zs (keyAt len zs j) E (n * n)
def expT (n len : Nat) (zs : List Int) (r c : Nat) (R : Nat → Nat) : Nat → Nat → Nat
  | 0 => R
  | i + 1 => expStep n len zs R (expT n len zs r c R i) (nbp n r c i)
theorem expT_fits {n len : Nat} {zs : List Int} {r c : Nat} {R : Nat → Nat} (h : Fits R) : ∀ i, Fits (expT n len zs r c R i)
  | 0 => h
  | i + 1 => by
    have := expT_fits (n := n) (len := len) (zs := zs) (r := r) (c := c) h i
    simp only [expT, expStep]
    split
    · exact this
    · split
      · exact this
      · exact expK_fits this _

/-! ### whole arrays -/
theorem words_size (S : Nat → Nat) : (words S).size = 16 := by simp [words]
theorem words_one (S : Nat → Nat) : (words S).all (·.oneCell') = true := by simp [words, Value.oneCell']
theorem size25 : (Yba.prog.info? 25).map (·.size) = some 16 := by kernel_rfl
theorem size28 : (Yba.prog.info? 28).map (·.size) = some 16 := by kernel_rfl
theorem i25 (S : Nat → Nat) : (Yba.prog.info? 25).map (·.size) = some (words S).size := by rw [words_size]; exact size25
theorem i28 (S : Nat → Nat) : (Yba.prog.info? 28).map (·.size) = some (words S).size := by rw [words_size]; exact size28
theorem heap_new (w : World) (o : Obj) : (w.alloc o).heap[w.heap.size]? = some o := (MapKept.heap_alloc w o).1
theorem heap_at (w : World) (o : Obj) (n : Nat) (h : n = w.heap.size) : (w.alloc o).heap[n]? = some o := by subst h; exact heap_new w o
theorem setRow_at (w : World) (n : Nat) (c c' : Array Value) (t : TypeId) (h : n = w.heap.size) : (w.alloc (.cells c t)).setRow n c' = w.alloc (.cells c' t) := by
  subst h; exact World.setRow_alloc_new w c c' t
def zero16 : Array Value := #[.int .u64 0, .int .u64 0, .int .u64 0, .int .u64 0, .int .u64 0, .int .u64 0, .int .u64 0, .int .u64 0, .int .u64 0, .int .u64 0, .int .u64 0, .int .u64 0, .int .u64 0, .int .u64 0, .int .u64 0, .int .u64 0]
def drC : Array Value := #[.int .i64 0, .int .i64 0, .int .i64 (-1), .int .i64 1]
def dcC : Array Value := #[.int .i64 (-1), .int .i64 1, .int .i64 0, .int .i64 0]

structure ES (w : World) (N : Nat) (R E : Nat → Nat) (wr : World) : Prop where
  hR : wr.heap[N]? = some (.cells (words R) 25)
  hZ : wr.heap[N + 1]? = some (.cells zero16 25)
  hE : wr.heap[N + 2]? = some (.cells (words E) 25)
  hr : wr.heap[N + 3]? = some (.cells drC 54)
  hc : wr.heap[N + 4]? = some (.cells dcC 54)
  below : Below w.heap.size w wr
  at_ : N = w.heap.size
theorem ES.start (w : World) (R : Nat → Nat) : ES w w.heap.size R R (((((w.alloc (.cells (words R) 25)).alloc (.cells zero16 25)).alloc (.cells (words R) 25)).alloc (.cells drC 54)).alloc (.cells dcC 54)) := by
  refine ⟨?_, ?_, ?_, ?_, ?_, ?_, rfl⟩
  · rw [Below.heap_alloc _ _ _ (by simp; omega), Below.heap_alloc _ _ _ (by simp; omega), Below.heap_alloc _ _ _ (by simp; omega), Below.heap_alloc _ _ _ (by simp)]; exact heap_new _ _
  · rw [Below.heap_alloc _ _ _ (by simp), Below.heap_alloc _ _ _ (by simp), Below.heap_alloc _ _ _ (by simp)]; exact heap_at _ _ _ (by simp)
  · rw [Below.heap_alloc _ _ _ (by simp), Below.heap_alloc _ _ _ (by simp)]; exact heap_at _ _ _ (by simp)
  · rw [Below.heap_alloc _ _ _ (by simp)]; exact heap_at _ _ _ (by simp)
  · exact heap_at _ _ _ (by simp)
  · exact ((((Below.refl _ _).alloc (Nat.le_refl _) _).alloc (by simp) _).alloc (by simp; omega) _).alloc (by simp; omega) _ |>.alloc (by simp; omega) _
theorem ES.drewN {w wr : World} {N : Nat} {R E : Nat → Nat} (h : ES w N R E wr) (k : Nat) : ES w N R E (wr.drewN k) := ⟨h.hR, h.hZ, h.hE, h.hr, h.hc, below_drewN h.below k, h.at_⟩
theorem ES.drew {w wr : World} {N : Nat} {R E : Nat → Nat} (h : ES w N R E wr) : ES w N R E wr.drew := ⟨h.hR, h.hZ, h.hE, h.hr, h.hc, h.below.drew, h.at_⟩
theorem ES.put {w wr w' : World} {N : Nat} {R E E' : Nat → Nat} (h : ES w N R E wr) {o : Nat} {x : Value} (hw : w' = (wr.setCell ⟨N + 2, o, none⟩ x).drew) (hE : w'.heap[N + 2]? = some (.cells (words E') 25)) : ES w N R E' w' := by
  have k : ∀ j, j ≠ N + 2 → w'.heap[j]? = wr.heap[j]? := fun j hj => by subst hw; exact Below.heap_setCell _ _ _ _ hj
  refine ⟨by rw [k _ (by omega)]; exact h.hR, by rw [k _ (by omega)]; exact h.hZ, hE, by rw [k _ (by omega)]; exact h.hr, by rw [k _ (by omega)]; exact h.hc, ?_, h.at_⟩
  subst hw
  exact (h.below.setCell (by simp [h.at_]) _).drew

theorem nn_lt {n s m : Nat} (hs : (n : Int) + 2 = s) (hm : (s : Int) * s = m) : n * n < m := by
  have e1 : s = n + 2 := by omega
  subst e1
  have e2 : (n + 2) * (n + 2) = m := by exact_mod_cast hm
  have e3 : (n + 2) * (n + 2) = n * n + 4 * n + 4 := by rw [Nat.mul_add, Nat.add_mul]; omega
  omega
theorem wrap64_n (p : Nat) (h : p < 1000) : wrap64 (p : Int) = p := by
  unfold wrap64; omega
theorem cast1 (a : Nat) : (a : Int) + 1 = ((a + 1 : Nat) : Int) := rfl
theorem vtx_wrap0 {n s m j : Nat} (hs : (n : Int) + 2 = s) (hm : (s : Int) * s = m) (hm1 : m ≤ 729) (hj : j < n * n) (X Y : Int) (hX : X = ((j / n : Nat) : Int)) (hY : Y = ((j % n : Nat) : Int)) :
    IntKind.i64.wrap (IntKind.i64.wrap (IntKind.i64.wrap (IntKind.i64.wrap (X + 1) * (s : Int)) + Y) + 1) = ((pt n j : Nat) : Int) := by
  have hp := pt_lt hs hm hj
  have e1 : s = n + 2 := by omega
  have ept : pt n j = (j / n + 1) * s + j % n + 1 := by unfold pt; rw [e1]
  rw [hX, hY]
  rw [ept] at hp ⊢
  have hs1 : 1 ≤ s := by omega
  have h1 : j / n + 1 ≤ (j / n + 1) * s := Nat.le_mul_of_pos_right _ hs1
  clear ept hj hs hm e1 hX hY
  generalize j / n = A at *
  generalize j % n = B at *
  obtain ⟨C, hC⟩ : ∃ C, C = (A + 1) * s := ⟨_, rfl⟩
  rw [← hC] at h1 hp ⊢
  rw [cast1, wrap_n _ (by omega), ← Int.natCast_mul, ← hC, wrap_n _ (by omega), ← Int.natCast_add, wrap_n _ (by omega), cast1, wrap_n _ (by omega)]
/-- The four forms in which the walk shows a point's vertex. -/
theorem vtx_wrap {n s m j : Nat} (hs : (n : Int) + 2 = s) (hm : (s : Int) * s = m) (hm1 : m ≤ 729) (hj : j < n * n) :
    (IntKind.i64.wrap (IntKind.i64.wrap (IntKind.i64.wrap (IntKind.i64.wrap (wrap64 ((j : Int) / (n : Int)) + 1) * (s : Int)) + (j : Int).tmod (n : Int)) + 1) = ((pt n j : Nat) : Int) ∧
    IntKind.i64.wrap (IntKind.i64.wrap (IntKind.i64.wrap (IntKind.i64.wrap (wrap64 ((j : Int) / (n : Int)) + 1) * (s : Int)) + (j : Int) % (n : Int)) + 1) = ((pt n j : Nat) : Int)) ∧
    IntKind.i64.wrap (IntKind.i64.wrap (IntKind.i64.wrap (IntKind.i64.wrap (IntKind.i64.wrap ((j : Int) / (n : Int)) + 1) * (s : Int)) + (j : Int).tmod (n : Int)) + 1) = ((pt n j : Nat) : Int) ∧
    IntKind.i64.wrap (IntKind.i64.wrap (IntKind.i64.wrap (IntKind.i64.wrap (IntKind.i64.wrap ((j : Int) / (n : Int)) + 1) * (s : Int)) + (j : Int) % (n : Int)) + 1) = ((pt n j : Nat) : Int) := by
  have hnn := nn_lt hs hm
  have hd : j / n ≤ j := Nat.div_le_self _ _
  have h1 : wrap64 ((j : Int) / (n : Int)) = ((j / n : Nat) : Int) := by rw [← Int.natCast_ediv, wrap64_n _ (by omega)]
  have h2 : IntKind.i64.wrap ((j : Int) / (n : Int)) = ((j / n : Nat) : Int) := by rw [← Int.natCast_ediv, wrap_n _ (by omega)]
  have h3 : (j : Int).tmod (n : Int) = ((j % n : Nat) : Int) := (Int.ofNat_tmod _ _).symm
  have h4 : (j : Int) % (n : Int) = ((j % n : Nat) : Int) := (Int.natCast_emod _ _).symm
  exact ⟨⟨vtx_wrap0 hs hm hm1 hj _ _ h1 h3, vtx_wrap0 hs hm hm1 hj _ _ h1 h4⟩, vtx_wrap0 hs hm hm1 hj _ _ h2 h3, vtx_wrap0 hs hm hm1 hj _ _ h2 h4⟩
def drI : Nat → Int | 2 => -1 | 3 => 1 | _ => 0
def dcI : Nat → Int | 0 => -1 | 1 => 1 | _ => 0
theorem dr_at {i : Nat} (h : i < 4) : drC[i]? = some (.int .i64 (drI i)) := by
  have : i = 0 ∨ i = 1 ∨ i = 2 ∨ i = 3 := by omega
  rcases this with rfl | rfl | rfl | rfl <;> rfl
theorem dc_at {i : Nat} (h : i < 4) : dcC[i]? = some (.int .i64 (dcI i)) := by
  have : i = 0 ∨ i = 1 ∨ i = 2 ∨ i = 3 := by omega
  rcases this with rfl | rfl | rfl | rfl <;> rfl
theorem dI_bd (i : Nat) : (-1 ≤ drI i ∧ drI i ≤ 1) ∧ -1 ≤ dcI i ∧ dcI i ≤ 1 := by
  unfold drI dcI
  constructor <;> split <;> omega
/-- The neighbour: beyond the edge, or a point. -/
theorem nbp_ways {n r c i : Nat} (hr : r < n) (hc : c < n) (hi : i < 4) :
    (nbp n r c i = none ∧ ((r : Int) + drI i < 0 ∨ n ≤ (r : Int) + drI i ∨ (c : Int) + dcI i < 0 ∨ n ≤ (c : Int) + dcI i)) ∨
    ∃ x y : Nat, (r : Int) + drI i = x ∧ (c : Int) + dcI i = y ∧ x < n ∧ y < n ∧ nbp n r c i = some (x * n + y) := by
  have : i = 0 ∨ i = 1 ∨ i = 2 ∨ i = 3 := by omega
  rcases this with rfl | rfl | rfl | rfl
  · by_cases h : 0 < c
    · exact .inr ⟨r, c - 1, by simp [drI], by simp [dcI]; omega, hr, by omega, by simp only [nbp, h, if_true]; congr 1; omega⟩
    · exact .inl ⟨by simp [nbp, h], by simp [drI, dcI]; omega⟩
  · by_cases h : c + 1 < n
    · exact .inr ⟨r, c + 1, by simp [drI], by simp [dcI], hr, by omega, by simp only [nbp, h, if_true]; congr 1⟩
    · exact .inl ⟨by simp [nbp, h], by simp [drI, dcI]; omega⟩
  · by_cases h : 0 < r
    · exact .inr ⟨r - 1, c, by simp [drI]; omega, by simp [dcI], by omega, hc, by simp only [nbp, h, if_true]⟩
    · exact .inl ⟨by simp [nbp, h], by simp [drI, dcI]; omega⟩
  · by_cases h : r + 1 < n
    · exact .inr ⟨r + 1, c, by simp [drI], by simp [dcI], by omega, hc, by simp only [nbp, h, if_true]⟩
    · exact .inl ⟨by simp [nbp, h], by simp [drI, dcI]; omega⟩

set_option maxRecDepth 100000 in
set_option maxHeartbeats 800000 in
theorem expect_walk (a : Option Addr) (len cap : Nat) (zs : List Int) (n s m r c : Nat) (R : Nat → Nat) (w : World) (h : IsRow .u8 w a len cap zs) (hF : Fits R) (hn2 : 2 ≤ n) (hn : n ≤ 25) (hs : (n : Int) + 2 = s) (hm : (s : Int) * s = m) (hm1 : m ≤ 729) (hr : r < n) (hc : c < n) :
    Calls Yba.prog 7 #[.int .i64 n, .slice a len cap, .int .i64 r, .int .i64 c, .agg (words R)] w fun e w' => e = .returned (.agg (words (addS (expT n len zs r c R 4) (pt n (r * n + c))))) ∧ Below w.heap.size w w' := by
  have HI := hide h
  clear h
  have hnn := nn_lt hs hm
  obtain ⟨M, hM⟩ : ∃ M : Nat, M = n * n := ⟨_, rfl⟩
  have hMI : (n : Int) * n = M := by rw [hM]; simp
  rw [← hM] at hnn
  have HMM := hide hM
  clear hM
  go_enter Yba.func7, Yba.ntmps7
  go_upto_region 2 with fail
  go_cut [9, 10, 11, 12] from 21 to 23 (fun s9 s10 s11 s12 wx => s9 = .pointer (some ⟨w.heap.size, 0, none⟩) ∧ s10 = .pointer (some ⟨w.heap.size + 1, 0, none⟩) ∧ s11 = .int .i64 s ∧ s12 = .pointer (some ⟨w.heap.size + 2, 0, none⟩) ∧ wx = ((w.alloc (.cells (words R) 25)).alloc (.cells zero16 25)).alloc (.cells (words R) 25))
  case first =>
    go_wp2_with first | (refine wpList_load_row rfl 25 (.tmp 9) rfl w.heap.size rfl 25 (words R) (0, 0) _ (by rw [Below.heap_alloc _ _ _ (by simp)]; exact heap_new _ _) Yba.underlying25 rfl (i25 R) ?_) | (refine wpList_store_row rfl 25 (.tmp 12) (.tmp 23) rfl (w.heap.size + 2) (words R) rfl rfl 25 _ (heap_at _ _ _ (by simp)) (i25 R) (words_size R).symm (words_one R) ?_; rw [setRow_at _ _ _ _ _ (by simp)])
    go_meet
    case rel => exact ⟨rfl, rfl, rfl, rfl, rfl⟩
  case rest =>
    obtain ⟨rfl, rfl, rfl, rfl, rfl⟩ := hcut
    have E0 := hide (ES.start w R)
    obtain ⟨N, hN⟩ : ∃ N, N = w.heap.size := ⟨_, rfl⟩
    go_upto_region 5 with fail
    go_cut [9, 10, 12, 13, 14, 15] from 21 to 25 (fun s9 s10 s12 s13 s14 s15 wx => s9 = .pointer (some ⟨N, 0, none⟩) ∧ s10 = .pointer (some ⟨N + 1, 0, none⟩) ∧ s12 = .pointer (some ⟨N + 2, 0, none⟩) ∧ s13 = .pointer (some ⟨N + 3, 0, none⟩) ∧ s14 = .pointer (some ⟨N + 4, 0, none⟩) ∧ s15 = .int .i64 0 ∧ ES w N R R wx)
    case first =>
      go_wp2
      go_meet
      case rel => subst hN; exact ⟨rfl, rfl, rfl, rfl, rfl, rfl, E0.out⟩
    case rest =>
      obtain ⟨rfl, rfl, rfl, rfl, rfl, rfl, he⟩ := hcut
      have EC := hide he
      clear he E0 hN
      go_wp2
      go_loopg [15] 4 (fun g s15 wr => ∃ i : Nat, i ≤ 4 ∧ g = 4 - i ∧ s15 = .int .i64 i ∧ ES w N R (expT n len zs r c R i) wr)
      case atStart => exact ⟨0, by omega, rfl, rfl, EC.out⟩
      case round =>
        obtain ⟨i, hi, rfl, rfl, he⟩ := hrel
        clear EC
        have ER := hide he
        clear he
        by_cases hi4 : i < 4
        · have hcr := cell_of ER.out.hr (dr_at hi4)
          have hcc := cell_of ER.out.hc (dc_at hi4)
          have hdb := dI_bd i
          have hways := nbp_ways hr hc hi4
          obtain ⟨dr, hdr⟩ : ∃ dr, dr = drI i := ⟨_, rfl⟩
          obtain ⟨dc, hdc⟩ : ∃ dc, dc = dcI i := ⟨_, rfl⟩
          rw [← hdr] at hcr hdb hways
          rw [← hdc] at hcc hdb hways
          obtain ⟨⟨hd1, hd2⟩, hd3, hd4⟩ := hdb
          have HSTEP : Hid (expT n len zs r c R (i + 1) = expStep n len zs R (expT n len zs r c R i) (nbp n r c i)) := hide rfl
          clear hdr hdc
          rcases hways with ⟨hnone, hoff⟩ | ⟨x, y, hx, hy, hxn, hyn, hsome⟩
          · have HSN : Hid (expT n len zs r c R (i + 1) = expT n len zs r c R i) := hide (by rw [HSTEP.out, hnone]; rfl)
            have HOFF := hide hoff
            clear hoff hnone
            by_cases h1 : (r : Int) + dr < 0
            · go_upto_region 8 with fail
              go_quiet (fail)
              go_wp2
              go_roundg (4 - (i + 1))
              case measure => omega
              case rel => exact ⟨i + 1, by omega, rfl, by go_num, by rw [HSN.out]; exact ER.out.drewN _⟩
            by_cases h2 : (n : Int) ≤ (r : Int) + dr
            · go_upto_region 8 with fail
              go_quiet (fail)
              go_wp2
              go_roundg (4 - (i + 1))
              case measure => omega
              case rel => exact ⟨i + 1, by omega, rfl, by go_num, by rw [HSN.out]; exact ER.out.drewN _⟩
            by_cases h3 : (c : Int) + dc < 0
            · go_upto_region 8 with fail
              go_quiet (fail)
              go_wp2
              go_roundg (4 - (i + 1))
              case measure => omega
              case rel => exact ⟨i + 1, by omega, rfl, by go_num, by rw [HSN.out]; exact ER.out.drewN _⟩
            have h4 : (n : Int) ≤ (c : Int) + dc := by have := HOFF.out; omega
            go_upto_region 8 with fail
            go_quiet (fail)
            go_wp2
            go_roundg (4 - (i + 1))
            case measure => omega
            case rel => exact ⟨i + 1, by omega, rfl, by go_num, by rw [HSN.out]; exact ER.out.drewN _⟩
          · rw [hsome] at HSTEP
            clear hsome
            have hrf := row_facts x hxn hs hm
            obtain ⟨p, hp⟩ : ∃ p : Nat, p = x * n := ⟨_, rfl⟩
            obtain ⟨q, hq⟩ : ∃ q : Nat, q = (x + 1) * s := ⟨_, rfl⟩
            have hpI : (x : Int) * n = p := by rw [hp]; simp
            have hqI : ((x : Int) + 1) * s = q := by rw [hq]; simp
            rw [← hp, ← hq] at hrf
            rw [← hp] at HSTEP
            obtain ⟨hqm, hpm0, hpt, hpn⟩ := hrf
            have HPT := hide (hpt y hyn)
            have hpm : p + n < m := by rw [← HMM.out] at hpm0; omega
            clear hpt hp hq hpn hpm0
            obtain ⟨κ, hκ⟩ : ∃ κ, κ = keyAt len zs (p + y) := ⟨_, rfl⟩
            have hkb := key_bd (cellAt len zs (p + y))
            rw [show keyOfCell (cellAt len zs (p + y)) = κ from hκ.symm] at hkb
            obtain ⟨hk0, hk1⟩ := hkb
            have HK := hide hκ
            clear hκ
            have HROW := fun k => hide (HI.out.later (ER.out.drewN k).below)
            have HER := fun k => hide (ER.out.drewN k)
            have HST2 : Hid (expT n len zs r c R (i + 1) = if κ < 0 ∨ mem R (q + y + 1) = true then expT n len zs r c R i else expK n len zs κ (expT n len zs r c R i) (n * n)) := hide (by rw [HSTEP.out, ← HPT.out, HK.out]; rfl)
            clear HSTEP
            by_cases hneg : κ < 0
            · have HSN : Hid (expT n len zs r c R (i + 1) = expT n len zs r c R i) := hide (by rw [HST2.out, if_pos (.inl hneg)])
              go_upto_region 8 with fail
              go_quiet (fail)
              go_wp2_with (go_at_call 9; rw [← Int.natCast_add]; refine (akey_any a len cap zs (p + y) _ (HROW _).out).mono ?_; rw [← HK.out]; rintro e w' ⟨rfl, rfl⟩)
              go_roundg (4 - (i + 1))
              case measure => omega
              case rel => exact ⟨i + 1, by omega, rfl, by go_num, by rw [HSN.out]; exact ER.out.drewN _⟩
            · cases hmem : mem R (q + y + 1) with
              | true =>
                have HSN : Hid (expT n len zs r c R (i + 1) = expT n len zs r c R i) := hide (by rw [HST2.out, if_pos (.inr hmem)])
                have HM := hide hmem
                clear hmem
                go_upto_region 8 with fail
                go_quiet (fail)
                go_wp2_with first | (go_at_call 9; rw [← Int.natCast_add]; refine (akey_any a len cap zs (p + y) _ (HROW _).out).mono ?_; rw [← HK.out]; rintro e w' ⟨rfl, rfl⟩) | (go_at_call 14; rw [← Int.natCast_add, ← Int.natCast_succ]; refine (ahas_any N (q + y + 1) 25 R _ (by omega) hF (HER _).out.hR).mono ?_; rw [HM.out]; rintro e w' ⟨rfl, rfl⟩)
                go_roundg (4 - (i + 1))
                case measure => omega
                case rel => exact ⟨i + 1, by omega, rfl, by go_num, by rw [HSN.out]; exact ER.out.drewN _⟩
              | false =>
                have HSN : Hid (expT n len zs r c R (i + 1) = expK n len zs κ (expT n len zs r c R i) (n * n)) := hide (by rw [HST2.out, if_neg (by rw [hmem]; simp; omega)])
                have HM := hide hmem
                clear hmem HST2
                go_upto_region 8 with fail
                go_quiet (fail)
                go_upto_region 13 with first | (go_at_call 9; rw [← Int.natCast_add]; refine (akey_any a len cap zs (p + y) _ (HROW _).out).mono ?_; rw [← HK.out]; rintro e w' ⟨rfl, rfl⟩) | (go_at_call 14; rw [← Int.natCast_add, ← Int.natCast_succ]; refine (ahas_any N (q + y + 1) 25 R _ (by omega) hF (HER _).out.hR).mono ?_; rw [HM.out]; rintro e w' ⟨rfl, rfl⟩)
                go_cut [19, 20] from 26 to 99 (fun s19 s20 wx => s19 = .int .i64 κ ∧ s20 = .int .i64 0 ∧ ES w N R (expT n len zs r c R i) wx)
                case first =>
                  go_wp2
                  go_meet
                  case rel => exact ⟨rfl, rfl, ER.out.drewN _⟩
                case rest =>
                  obtain ⟨rfl, rfl, he⟩ := hcut
                  clear HER HROW ER hcr hcc
                  have EC := hide he
                  clear he
                  rw [← HMM.out] at HSN
                  have hef : Fits (expT n len zs r c R i) := expT_fits hF i
                  obtain ⟨E, hE⟩ : ∃ E, E = expT n len zs r c R i := ⟨_, rfl⟩
                  rw [← hE] at EC HSN hef
                  have HEF := hide hef
                  clear hE hef
                  go_wp2
                  go_loopg [20] M (fun g s20 wr => ∃ j : Nat, j ≤ M ∧ g = M - j ∧ s20 = .int .i64 j ∧ ES w N R (expK n len zs κ E j) wr)
                  case atStart => exact ⟨0, by omega, rfl, rfl, EC.out⟩
                  case round =>
                    obtain ⟨j, hj, rfl, rfl, he⟩ := hrel
                    clear EC
                    have ER := hide he
                    clear he
                    by_cases hjM : j < M
                    · have HROW := hide (HI.out.later ER.out.below)
                      obtain ⟨kj, hl⟩ : ∃ kj, kj = keyAt len zs j := ⟨_, rfl⟩
                      have hlb := key_bd (cellAt len zs j)
                      rw [show keyOfCell (cellAt len zs j) = kj from hl.symm] at hlb
                      obtain ⟨hl0, hl1⟩ := hlb
                      have HST : Hid (expK n len zs κ E (j + 1) = if kj = κ then addS (expK n len zs κ E j) (pt n j) else expK n len zs κ E j) := hide (by rw [hl]; rfl)
                      have HL := hide hl
                      clear hl
                      by_cases hkk : kj = κ
                      · have heq : (kj == κ) = true := by simp [hkk]
                        have HS2 := hide HST.out
                        rw [if_pos hkk] at HS2
                        have HKK := hide hkk
                        clear hkk HST
                        go_upto_region 17 with (go_at_call 9; refine (akey_any a len cap zs j _ HROW.out).mono ?_; rw [← HL.out]; rintro e w' ⟨rfl, rfl⟩)
                        have HW := hide (vtx_wrap hs hm hm1 (by rw [← HMM.out]; exact hjM : j < n * n))
                        have HPL := hide (pt_lt hs hm (by rw [← HMM.out]; exact hjM : j < n * n))
                        go_region_with (go_at_call 15; (first | rw [HW.out.1.1] | rw [HW.out.1.2] | rw [HW.out.2.1] | rw [HW.out.2.2]); refine (aput_any (N + 2) (pt n j) 25 (expK n len zs κ E j) _ (by have := HPL.out; omega) (expK_fits HEF.out j) ER.out.drew.hE).mono ?_; rintro e w2 ⟨rfl, xx, hw2, hb2⟩; have E2 := hide (ER.out.drew.put hw2 hb2); clear hw2 hb2)
                        all_goals
                          go_wp2
                          go_roundg (M - (j + 1))
                          case measure => omega
                          case rel => exact ⟨j + 1, by omega, rfl, by go_num, by rw [HS2.out]; exact E2.out⟩
                      · have heq : (kj == κ) = false := by simpa using hkk
                        have HS2 := hide HST.out
                        rw [if_neg hkk] at HS2
                        have HKK := hide hkk
                        clear hkk HST
                        go_wp2_with (go_at_call 9; refine (akey_any a len cap zs j _ HROW.out).mono ?_; rw [← HL.out]; rintro e w' ⟨rfl, rfl⟩)
                        go_roundg (M - (j + 1))
                        case measure => omega
                        case rel => exact ⟨j + 1, by omega, rfl, by go_num, by rw [HS2.out]; exact ER.out⟩
                    · obtain rfl : j = M := by omega
                      go_wp2
                      go_roundg (4 - (i + 1))
                      case measure => omega
                      case rel => exact ⟨i + 1, by omega, rfl, by go_num, by rw [HSN.out]; exact ER.out⟩
        · obtain rfl : i = 4 := by omega
          have hrf := row_facts r hr hs hm
          obtain ⟨q, hq⟩ : ∃ q : Nat, q = (r + 1) * s := ⟨_, rfl⟩
          have hqI : ((r : Int) + 1) * s = q := by rw [hq]; simp
          rw [← hq] at hrf
          obtain ⟨hqm, _, hpt, _⟩ := hrf
          have HPT := hide (hpt c hc)
          clear hpt hq
          go_wp2_with fail
          rw [← Int.natCast_add, cast1]
          refine (aput_any (N + 2) (q + c + 1) 25 (expT n len zs r c R 4) _ (by omega) (expT_fits hF 4) ER.out.hE).mono ?_
          rintro e w2 ⟨rfl, xx, hw2, hb2⟩
          have E2 := hide (ER.out.put hw2 hb2)
          rw [← HPT.out] at E2
          clear hw2 hb2 HPT
          obtain ⟨E', hE'⟩ : ∃ E', E' = addS (expT n len zs r c R 4) (pt n (r * n + c)) := ⟨_, rfl⟩
          rw [← hE'] at E2
          have HE' := hide hE'
          clear hE'
          go_wp2_with first | (refine wpList_load_row rfl 25 (.tmp 12) rfl (N + 2) rfl 25 (words E') (0, 0) _ E2.out.hE Yba.underlying25 rfl (i25 E') ?_) | (refine wpList_store_row rfl 25 (.tmp 10) (.tmp 108) rfl (N + 1) (words E') rfl rfl 25 _ E2.out.hZ (i25 E') (by rw [words_size]; rfl) (words_one E') ?_)
          refine bodyPost_ret (v := .agg (words E')) (results_cell_row (p := 10) (ty := 25) Yba.results7 _ _ (N + 1) 25 (words E') (0, 0) _ rfl (setRow_heap _ _ _ _ _ _ E2.out.hZ) Yba.underlying25 rfl (i25 E')) rfl ⟨by rw [HE'.out], ?_⟩
          exact below_setRow E2.out.below (by have := E2.out.at_; omega) _
end Go.Proofs.Ybulkabri
