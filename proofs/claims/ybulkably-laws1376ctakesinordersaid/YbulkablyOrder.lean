import Derived.Test.YbulkablyIntake
import Derived.Test.YbulkablyBgTake
import Derived.LaidEql
namespace Go.Proofs.Ybulkably
open Go.Conc Go.RowKit Go.MuLone

/-- WHAT THE WALK IS TOLD OF A SLICE OF BOOLS THAT CAME IN. -/
def IsBools (w : World) (a : Option Addr) (len cap : Nat) (B : Nat → Bool) : Prop :=
  (a = none ∧ len = 0 ∧ cap = 0) ∨ ∃ x, a = some x ∧ len ≤ cap ∧ cap ≤ maxLen ∧ ∀ i, i < cap → w.cell? (x.add i) = some (.bool (B i))
theorem IsBools.len {w : World} {a : Option Addr} {len cap : Nat} {B : Nat → Bool} (h : IsBools w a len cap B) : len ≤ maxLen := by
  rcases h with ⟨_, rfl, _⟩ | ⟨x, _, hl, hm, _⟩
  · simp
  · omega
theorem IsBools.at_ {w : World} {a : Option Addr} {len cap : Nat} {B : Nat → Bool} (h : IsBools w a len cap B) {i : Nat} (hi : i < len) :
    ∃ b off, a = some ⟨b, off, none⟩ ∧ b < w.heap.size ∧ w.cell? ⟨b, off + i, none⟩ = some (.bool (B i)) := by
  rcases h with ⟨_, rfl, _⟩ | ⟨x, rfl, hl, hm, hc⟩
  · omega
  · obtain ⟨b, off, spot⟩ := x
    have hspot : spot = none := by simpa [Addr.add] using World.cell?_spot (hc 0 (by omega))
    subst hspot
    have h1 := hc i (by omega)
    rw [Go.WideShapes.add_plain] at h1
    exact ⟨b, off, rfl, World.block_lt_of_cell? _ _ h1, h1⟩

/-- The first j elements. -/
def seqTo (f : Nat → Value) (j : Nat) : Array Value := ((List.range j).map f).toArray
theorem seqTo_size (f : Nat → Value) (j : Nat) : (seqTo f j).size = j := by simp [seqTo]
theorem seqTo_push (f : Nat → Value) (j : Nat) : (seqTo f j).push (f j) = seqTo f (j + 1) := by simp [seqTo, List.range_succ]
theorem seqTo_ext_size (f : Nat → Value) (n i : Nat) : ((seqTo f n).extract i n).size = n - i := by
  simp [Array.size_extract, seqTo_size]
theorem seqTo_head (f : Nat → Value) (n i : Nat) (hi : i < n) : ((seqTo f n).extract i n).getD 0 undef = f i := by
  have h2 : 0 < ((seqTo f n).extract i n).size := by rw [seqTo_ext_size]; omega
  rw [Array.getD_eq_getD_getElem?, Array.getElem?_eq_getElem h2, Array.getElem_extract]
  simp [seqTo]
theorem seqTo_tail (f : Nat → Value) (n i : Nat) : ((seqTo f n).extract i n).extract 1 ((seqTo f n).extract i n).size = (seqTo f n).extract (i + 1) n := by
  rw [Array.extract_extract, seqTo_ext_size]
  congr 1
  omega
theorem seqTo_end (f : Nat → Value) (n : Nat) : (seqTo f n).extract n n = #[] := by
  apply Array.eq_empty_of_size_eq_zero
  rw [seqTo_ext_size]; omega

/-- The error's block and value; the elements. -/
abbrev badV (w : World) : Value := .iface 61 (.pointer (some ⟨w.heap.size, 0, none⟩))
def isErr (len1 : Nat) (B : Nat → Bool) (i : Nat) : Bool := decide (i < len1) && B i
def elB (w : World) (zs : List Int) (len1 : Nat) (B : Nat → Bool) (i : Nat) : Value := if isErr len1 B i then .agg #[.int .i64 0, badV w] else .agg #[.int .i64 (zs.getD i 0), .nilIface]

structure SendB (w : World) (n : Nat) (f : Nat → Value) (j : Nat) (wr : World) : Prop where
  size : wr.heap.size = w.heap.size + 2
  chan : wr.heap[w.heap.size + 1]? = some (.chan n (seqTo f j) false j 0 false)
  below : Below w.heap.size w wr
theorem SendB.start (w : World) (n : Nat) (f : Nat → Value) (o : Obj) : SendB w n f 0 ((w.alloc o).alloc (.chan n #[] false 0 0 false)) :=
  ⟨by simp, by simpa only [World.size_alloc, seqTo, List.range_zero, List.map_nil] using heap_alloc_new (w.alloc o) (.chan n #[] false 0 0 false), ((Below.refl _ _).alloc (Nat.le_refl _) _).alloc (by simp) _⟩
theorem SendB.next {w wr : World} {n j : Nat} {f : Nat → Value} (h : SendB w n f j wr) : SendB w n f (j + 1) (wr.setChan (w.heap.size + 1) n ((seqTo f j).push (f j)) false (j + 1) 0 false) :=
  ⟨by rw [size_setChan, h.size], by rw [seqTo_push]; exact heap_setChan _ _ _ _ _ _ _ _ (by rw [h.size]; omega), below_setChan h.below (by omega) _ _ _ _ _ _⟩
structure ShutB (w : World) (n : Nat) (f : Nat → Value) (wr : World) : Prop where
  size : wr.heap.size = w.heap.size + 2
  chan : wr.heap[w.heap.size + 1]? = some (.chan n (seqTo f n) true n 0 false)
  below : Below w.heap.size w wr
theorem SendB.shut {w wr : World} {n : Nat} {f : Nat → Value} (h : SendB w n f n wr) : ShutB w n f { wr with heap := wr.heap.setIfInBounds (w.heap.size + 1) (.chan n (seqTo f n) true n 0 false) } :=
  ⟨by simpa using h.size, heap_setChan wr (w.heap.size + 1) n (seqTo f n) true n 0 false (by rw [h.size]; omega), below_setChan h.below (by omega) n (seqTo f n) true n 0 false⟩

/-- The state at the second loop's head: N the error, N + 1 the input's channel, N + 2 'held', N + 3 the struct. -/
structure LB (w : World) (n : Nat) (f : Nat → Value) (nx : Int) (idx : Nat) (wr : World) : Prop where
  hS : wr.heap[w.heap.size + 3]? = some (.cells (sBlk (w.heap.size + 1) (w.heap.size + 2) bgV 0 nx) 53)
  hI : InAt wr (w.heap.size + 1) n ((seqTo f n).extract idx n)
  hH : HeldAt wr (w.heap.size + 2) (n + 1) idx
  below : Below w.heap.size w wr
theorem LB.start {w wc : World} {n : Nat} {f : Nat → Value} (nx : Int) (h : ShutB w n f wc) :
    LB w n f nx 0 ((wc.alloc (.chan (n + 1) #[] false 0 0 false)).alloc (.cells (sBlk (w.heap.size + 1) (w.heap.size + 2) bgV 0 nx) 53)) := by
  have hs := h.size
  refine ⟨?_, ⟨n, 0, ?_⟩, ⟨0, 0, ?_⟩, ?_⟩
  · have := heap_alloc_new (wc.alloc (.chan (n + 1) #[] false 0 0 false)) (.cells (sBlk (w.heap.size + 1) (w.heap.size + 2) bgV 0 nx) 53)
    simpa only [World.size_alloc, hs] using this
  · rw [Below.heap_alloc _ _ _ (by simp [hs]), Below.heap_alloc _ _ _ (by simp [hs]), h.chan]
    have e : (seqTo f n).extract 0 n = seqTo f n := by rw [Array.extract_eq_self_of_le (by rw [seqTo_size]; omega)]
    rw [e]
  · rw [Below.heap_alloc _ _ _ (by simp [hs])]
    have := heap_alloc_new wc (.chan (n + 1) #[] false 0 0 false)
    simpa only [hs, Array.replicate_zero] using this
  · exact (h.below.alloc (by omega) _).alloc (by simp; omega) _
theorem LB.alloc {w wr : World} {n : Nat} {f : Nat → Value} {nx : Int} {idx : Nat} (h : LB w n f nx idx wr) (o : Obj) : LB w n f nx idx (wr.alloc o) := by
  obtain ⟨hS, ⟨s, r, hI⟩, ⟨s', r', hH⟩, hb⟩ := h
  have l1 := lt_of_heap hS
  refine ⟨?_, ⟨s, r, ?_⟩, ⟨s', r', ?_⟩, hb.alloc (by omega) _⟩
  · rw [Below.heap_alloc _ _ _ l1]; exact hS
  · rw [Below.heap_alloc _ _ _ (by omega)]; exact hI
  · rw [Below.heap_alloc _ _ _ (by omega)]; exact hH
theorem LB.drewN {w wr : World} {n : Nat} {f : Nat → Value} {nx : Int} {idx : Nat} (h : LB w n f nx idx wr) (q : Nat) : LB w n f nx idx (wr.drewN q) :=
  ⟨h.hS, h.hI, h.hH, h.below.trans ⟨rfl, rfl, rfl, Nat.le_refl _, fun _ _ => rfl⟩⟩
theorem LB.of_tb {w wr w' : World} {n : Nat} {f : Nat → Value} {nx nx' : Int} {idx idx' R : Nat} {rv : Array Value} {ibuf : Array Value} (h : LB w n f nx idx wr)
    (ht : TB wr R rv (w.heap.size + 3) (w.heap.size + 1) (w.heap.size + 2) 0 nx' n ibuf (n + 1) idx' w') (hi : ibuf = (seqTo f n).extract idx' n) : LB w n f nx' idx' w' := by
  have l1 := lt_of_heap h.hS
  subst hi
  exact ⟨ht.hS, ht.hI, ht.hH, h.below.trans (ht.hk.below (by omega) (by simp))⟩
theorem LB.lens {w wr : World} {n : Nat} {f : Nat → Value} {nx : Int} {idx : Nat} (h : LB w n f nx idx wr) :
    ∀ q ty, (Builtin.len_ #[30] ty #[.chan (some (w.heap.size + 2))]).run Yba.prog (wr.drewN q) = .ok (.int .i64 idx) (wr.drewN q) := by
  obtain ⟨_, _, ⟨s', r', hH⟩, _⟩ := h
  intro q ty
  have := run_len_chan (P := Yba.prog) (w := wr.drewN q) 30 ty Yba.underlying30 hH
  simpa [goInt] using this

theorem neq_same (a : Addr) (w : World) : (binOp .neq 25 (.iface 61 (.pointer (some a))) (.iface 61 (.pointer (some a)))).run Yba.prog w = .ok (.bool false) w := by
  have h1 : (Yba.prog.info? 61).map (·.comparable) = some true := by kernel_rfl
  obtain ⟨i, hi, hc⟩ := Option.map_eq_some_iff.1 h1
  have h2 : (Yba.prog.info? 63).map (·.bytes) = some 16 := by kernel_rfl
  obtain ⟨j, hj, _⟩ := Option.map_eq_some_iff.1 h2
  simp only [binOp]
  simp [Op.equal, Op.maxDepth, run_equalIn_iface_ptr_same w 9998 a Yba.underlying25 Yba.underlying61 hi hc hj]
theorem isErr_out {len1 : Nat} {B : Nat → Bool} {j : Nat} (h : ¬ j < len1) : isErr len1 B j = false := by simp [isErr, h]
theorem isErr_in {len1 : Nat} {B : Nat → Bool} {j : Nat} (h : j < len1) : isErr len1 B j = B j := by simp [isErr, h]
theorem elB_t {w : World} {zs : List Int} {len1 : Nat} {B : Nat → Bool} {i : Nat} (h : isErr len1 B i = true) : elB w zs len1 B i = .agg #[.int .i64 0, badV w] := by simp [elB, h]
theorem elB_f {w : World} {zs : List Int} {len1 : Nat} {B : Nat → Bool} {i : Nat} (h : isErr len1 B i = false) : elB w zs len1 B i = .agg #[.int .i64 (zs.getD i 0), .nilIface] := by simp [elB, h]
theorem wrap_next (a : Int) (i : Nat) : wrap64 (wrap64 (a + i) + 1) = wrap64 (a + (i + 1 : Nat)) := by
  unfold wrap64
  omega

set_option maxRecDepth 100000 in
set_option maxHeartbeats 1600000 in
theorem order_walk (a0 : Option Addr) (len0 cap0 : Nat) (z0 : List Int) (a1 : Option Addr) (len1 cap1 : Nat) (B : Nat → Bool) (a2 : Int) (w : World) (w0 : IsRow .i64 w a0 len0 cap0 z0) (w1 : IsBools w a1 len1 cap1 B) (w2 : (Lit.int .i64 a2).wf = true) :
    Calls Yba.prog 3 #[.slice a0 len0 cap0, .slice a1 len1 cap1, .int .i64 a2] w fun e w' => e = .returned (.bool true) ∧ Below w.heap.size w w' := by
  have hlen := w0.lens
  have hlen1 := w1.len
  unfold maxLen at hlen hlen1
  obtain ⟨hz, hm⟩ := hlen
  by_cases hbig : 1024 < len0
  · go_enter Yba.func3, Yba.ntmps3
    go_wp2
    go_ret
    exact ⟨rfl, Below.refl _ _⟩
  · have hmk := mk27 len0 (by omega)
    go_enter Yba.func3, Yba.ntmps3
    go_wp2_with (go_at_call 5; refine (new_any _ _).mono ?_; rintro e w' ⟨rfl, rfl⟩)
    clear hmk
    go_loopg [10] len0 (fun g i wr => ∃ j : Nat, j ≤ len0 ∧ g = len0 - j ∧ i = .int .i64 j ∧ SendB w len0 (elB w z0 len1 B) j wr)
    case atStart => exact ⟨0, Nat.zero_le _, rfl, rfl, SendB.start w len0 _ _⟩
    case round =>
      obtain ⟨j, hj, rfl, rfl, hsd⟩ := hrel
      have HSD := hide hsd
      clear hsd
      by_cases hlt : j < len0
      · go_upto_region 9 with fail
        go_cut [42] from 28 to 51 (fun v wx => wx = wr ∧ v = .bool (isErr len1 B j))
        case first =>
          by_cases he : j < len1
          · obtain ⟨b1, off1, rfl, hbl1, hcell1⟩ := w1.at_ he
            have hcr1 : wr.cell? ⟨b1, off1 + j, none⟩ = some (.bool (B j)) := by rw [HSD.out.below.cell (p := ⟨b1, off1 + j, none⟩) hbl1]; exact hcell1
            clear hcell1
            go_wp2
            go_meet
            case rel => exact ⟨rfl, by rw [isErr_in he]⟩
          · go_wp2
            go_meet
            case rel => exact ⟨rfl, by rw [isErr_out he]⟩
        case rest =>
          obtain ⟨rfl, rfl⟩ := hcut
          cases hE : isErr len1 B j with
          | true =>
            have HE := hide (elB_t (w := w) (zs := z0) hE)
            clear hE
            go_upto_region 10 with fail
            refine wp_region_comm_k [_, _, _] _ [] rfl (fun K hK => ?_)
            simp only [List.cons_append, List.nil_append] at hK ⊢
            go_wp2
            refine ⟨_, _, commTo_send (c := w.heap.size + 1) (v := elB w z0 len1 B j) (z' := .tuple #[]) (cap := len0) (buf := seqTo (elB w z0 len1 B) j) (s := j) (r := 0) (tm := false) (w₁ := wc) (by rw [HE.out]; simp [go_sem, execOp, scase, Act.eval]) HSD.out.chan (by rw [seqTo_size]; exact hlt), ?_⟩
            have HS2 := hide HSD.out.next
            simp only [Act.put]
            go_wp2
            go_roundg (len0 - (j + 1))
            case measure => omega
            case rel => exact ⟨j + 1, by omega, rfl, by go_num, HS2.out⟩
          | false =>
            have HE := hide (elB_f (w := w) (zs := z0) hE)
            clear hE
            obtain ⟨b, off, rfl, hbl, hcell⟩ := w0.at_ hlt
            have hcr : wc.cell? ⟨b, off + j, none⟩ = some (.int .i64 (z0.getD j 0)) := by rw [HSD.out.below.cell (p := ⟨b, off + j, none⟩) hbl]; exact hcell
            clear hcell
            go_upto_region 11 with fail
            refine wp_region_comm_k [_, _, _, _, _, _] _ [] rfl (fun K hK => ?_)
            simp only [List.cons_append, List.nil_append] at hK ⊢
            go_wp2
            refine ⟨_, _, commTo_send (c := w.heap.size + 1) (v := elB w z0 len1 B j) (z' := .tuple #[]) (cap := len0) (buf := seqTo (elB w z0 len1 B) j) (s := j) (r := 0) (tm := false) (w₁ := wc) (by rw [HE.out]; simp [go_sem, execOp, scase, Act.eval]) HSD.out.chan (by rw [seqTo_size]; exact hlt), ?_⟩
            have HS2 := hide HSD.out.next
            simp only [Act.put]
            go_wp2
            go_roundg (len0 - (j + 1))
            case measure => omega
            case rel => exact ⟨j + 1, by omega, rfl, by go_num, HS2.out⟩
      · go_upto_region 12 with fail
        obtain rfl : j = len0 := by omega
        have hcl := fun ats ty => run_close_open (P := Yba.prog) ats ty HSD.out.chan
        go_cut [10] from 28 to 52 (fun x wx => ShutB w j (elB w z0 len1 B) wx)
        case first =>
          go_wp2
          go_meet
          case rel => exact HSD.out.shut
        case rest =>
          have HSH := hide hcut
          have hsz := hcut.size
          clear hcut hcl HSD
          have hmk : ∀ w, (Instr.makeChan 30 (.int .i64 (j + 1))).run Yba.prog w = .ok (.chan (some w.heap.size)) (w.alloc (.chan (j + 1) #[] false 0 0 false)) := by
            intro w
            have := mk30 (j + 1) (by omega) w
            simpa using this
          go_upto_region 15 with (go_at_call 6; refine (bg_any _).mono ?_; rintro e w' ⟨rfl, rfl⟩)
          go_cut [12, 13] from 53 to 61 (fun s12 s13 wx => s12 = .pointer (some ⟨w.heap.size + 3, 0, none⟩) ∧ s13 = .int .i64 0 ∧ LB w j (elB w z0 len1 B) (wrap64 (a2 + (0 : Nat))) 0 wx)
          case first =>
            go_wp2
            go_meet
            case rel =>
              have ew : wrap64 (a2 + (0 : Nat)) = a2 := by
                have := bounds_i64 w2
                unfold wrap64; omega
              rw [ew]
              exact ⟨rfl, rfl, LB.start _ HSH.out⟩
          case rest =>
            obtain ⟨rfl, rfl, hls⟩ := hcut
            clear HSH hmk hsz
            have HLS := hide hls
            clear hls
            go_wp2
            go_loopg [13] j (fun g s13 wr => ∃ i : Nat, i ≤ j ∧ g = j - i ∧ s13 = .int .i64 i ∧ LB w j (elB w z0 len1 B) (wrap64 (a2 + i)) i wr)
            case atStart => exact ⟨0, Nat.zero_le _, rfl, rfl, HLS.out⟩
            case round =>
              obtain ⟨i, hi, rfl, rfl, hls⟩ := hrel
              clear HLS
              have HLS := hide hls
              clear hls
              by_cases hlt : i < j
              · go_upto_region 18 with fail
                cases hE : isErr len1 B i with
                | true =>
                  have HE := hide (elB_t (w := w) (zs := z0) hE)
                  go_cut [14, 15, 16] from 62 to 128 (fun s14 s15 s16 wx => s14 = .int .i64 (wrap64 (a2 + i)) ∧ s16 = .bool true ∧ ∃ rb, s15 = .pointer (some ⟨rb, 0, none⟩) ∧ wx.heap[rb]? = some (.cells #[.int .i64 0, badV w] 29) ∧ LB w j (elB w z0 len1 B) (wrap64 (wrap64 (a2 + i) + 1)) (i + 1) wx)
                  case first =>
                    go_wp2_with (go_at_call 7; refine (take_val_bg (w.heap.size + 3) (w.heap.size + 1) (w.heap.size + 2) j (j + 1) i _ (wrap64 (a2 + i)) (.int .i64 0) (badV w) rfl rfl _ HLS.out.hS HLS.out.hI HLS.out.hH (by omega) (by rw [seqTo_ext_size]; omega) ((seqTo_head _ j i hlt).trans HE.out)).mono ?_; rintro e w' ⟨rfl, hts⟩)
                    go_meet
                    case rel => exact ⟨rfl, rfl, w'.heap.size, rfl, heap_alloc_new _ _, (HLS.out.of_tb hts (seqTo_tail _ j i)).alloc _⟩
                  case rest =>
                    obtain ⟨rfl, rfl, rb, rfl, hrb, hls⟩ := hcut
                    have r0 := cell_of (o := 0) hrb (v := .int .i64 0) rfl
                    have r1 := cell_of (o := 1) hrb (v := badV w) rfl
                    have q8 := cell_of (o := 8) hls.hS (v := .int .i64 (wrap64 (wrap64 (a2 + i) + 1))) rfl
                    have hl1 := hls.lens
                    have hl3 := hl1 0
                    simp only [World.drewN_zero] at hl3
                    have HLS2 := hide hls
                    clear hls hrb HLS HE
                    go_upto_region 21 with fail
                    go_cut [91] from 62 to 128 (fun v wx => wx = wc ∧ v = .bool true)
                    case first =>
                      have he : i < len1 := by by_cases he : i < len1; exact he; rw [isErr_out he] at hE; cases hE
                      have hB : B i = true := (isErr_in he).symm.trans hE
                      obtain ⟨b1, off1, rfl, hbl1, hcell1⟩ := w1.at_ he
                      have hcr1 : wc.cell? ⟨b1, off1 + i, none⟩ = some (.bool true) := by rw [HLS2.out.below.cell (p := ⟨b1, off1 + i, none⟩) hbl1, hcell1, hB]
                      clear hcell1 hB hE
                      go_wp2
                      go_meet
                      case rel => exact ⟨rfl, rfl⟩
                    case rest =>
                      obtain ⟨hwx, rfl⟩ := hcut
                      subst hwx
                      clear hE
                      have hnq := neq_same
                      go_wp2
                      go_roundg (j - (i + 1))
                      case measure => omega
                      case rel => exact ⟨i + 1, by omega, rfl, by go_num, by rw [← wrap_next]; exact HLS2.out⟩
                | false =>
                  have HE := hide (elB_f (w := w) (zs := z0) hE)
                  go_cut [14, 15, 16] from 62 to 128 (fun s14 s15 s16 wx => s14 = .int .i64 (wrap64 (a2 + i)) ∧ s16 = .bool true ∧ ∃ rb, s15 = .pointer (some ⟨rb, 0, none⟩) ∧ wx.heap[rb]? = some (.cells #[.int .i64 (z0.getD i 0), .nilIface] 29) ∧ LB w j (elB w z0 len1 B) (wrap64 (wrap64 (a2 + i) + 1)) (i + 1) wx)
                  case first =>
                    go_wp2_with (go_at_call 7; refine (take_val_bg (w.heap.size + 3) (w.heap.size + 1) (w.heap.size + 2) j (j + 1) i _ (wrap64 (a2 + i)) (.int .i64 (z0.getD i 0)) (.nilIface) rfl rfl _ HLS.out.hS HLS.out.hI HLS.out.hH (by omega) (by rw [seqTo_ext_size]; omega) ((seqTo_head _ j i hlt).trans HE.out)).mono ?_; rintro e w' ⟨rfl, hts⟩)
                    go_meet
                    case rel => exact ⟨rfl, rfl, w'.heap.size, rfl, heap_alloc_new _ _, (HLS.out.of_tb hts (seqTo_tail _ j i)).alloc _⟩
                  case rest =>
                    obtain ⟨rfl, rfl, rb, rfl, hrb, hls⟩ := hcut
                    have r0 := cell_of (o := 0) hrb (v := .int .i64 (z0.getD i 0)) rfl
                    have r1 := cell_of (o := 1) hrb (v := .nilIface) rfl
                    have q8 := cell_of (o := 8) hls.hS (v := .int .i64 (wrap64 (wrap64 (a2 + i) + 1))) rfl
                    have hl1 := hls.lens
                    have hl3 := hl1 0
                    simp only [World.drewN_zero] at hl3
                    have HLS2 := hide hls
                    clear hls hrb HLS HE
                    go_upto_region 21 with fail
                    go_cut [91] from 62 to 128 (fun v wx => wx = wc ∧ v = .bool false)
                    case first =>
                      by_cases he : i < len1
                      · have hB : B i = false := (isErr_in he).symm.trans hE
                        obtain ⟨b1, off1, rfl, hbl1, hcell1⟩ := w1.at_ he
                        have hcr1 : wc.cell? ⟨b1, off1 + i, none⟩ = some (.bool false) := by rw [HLS2.out.below.cell (p := ⟨b1, off1 + i, none⟩) hbl1, hcell1, hB]
                        clear hcell1 hB hE
                        go_wp2
                        go_meet
                        case rel => exact ⟨rfl, rfl⟩
                      · clear hE
                        go_wp2
                        go_meet
                        case rel => exact ⟨rfl, rfl⟩
                    case rest =>
                      obtain ⟨hwx, rfl⟩ := hcut
                      subst hwx
                      clear hE
                      obtain ⟨b, off, rfl, hbl, hcell⟩ := w0.at_ hlt
                      have hcr : wc.cell? ⟨b, off + i, none⟩ = some (.int .i64 (z0.getD i 0)) := by rw [HLS2.out.below.cell (p := ⟨b, off + i, none⟩) hbl]; exact hcell
                      clear hcell
                      go_upto_region 24 with fail
                      go_quiet (fail)
                      go_wp2
                      go_roundg (j - (i + 1))
                      case measure => omega
                      case rel => exact ⟨i + 1, by omega, rfl, by go_num, by rw [← wrap_next]; exact HLS2.out.drewN _⟩
              · obtain rfl : i = j := by omega
                go_upto_region 28 with fail
                go_cut [17, 18, 19] from 62 to 163 (fun s17 s18 s19 wx => s17 = .int .i64 0 ∧ s19 = .bool false ∧ ∃ rb, s18 = .pointer (some ⟨rb, 0, none⟩) ∧ wx.heap[rb]? = some (.cells #[.int .i64 0, .nilIface] 29) ∧ LB w i (elB w z0 len1 B) (wrap64 (a2 + i)) i wx)
                case first =>
                  go_wp2_with (go_at_call 7; refine (take_shut_bg (w.heap.size + 3) (w.heap.size + 1) (w.heap.size + 2) i (i + 1) i _ (wrap64 (a2 + i)) _ HLS.out.hS HLS.out.hI HLS.out.hH (by omega) (seqTo_end _ i)).mono ?_; rintro e w' ⟨rfl, hts⟩)
                  go_meet
                  case rel => exact ⟨rfl, rfl, w'.heap.size, rfl, heap_alloc_new _ _, (HLS.out.of_tb hts rfl).alloc _⟩
                case rest =>
                  obtain ⟨rfl, rfl, rb, rfl, hrb, hls⟩ := hcut
                  have r0 := cell_of (o := 0) hrb (v := .int .i64 0) rfl
                  have r1 := cell_of (o := 1) hrb (v := .nilIface) rfl
                  have q8 := cell_of (o := 8) hls.hS (v := .int .i64 (wrap64 (a2 + i))) rfl
                  have hl3 := hls.lens 0
                  simp only [World.drewN_zero] at hl3
                  have HLS2 := hide hls
                  clear hls hrb HLS
                  go_wp2
                  go_ret
                  exact ⟨rfl, HLS2.out.below⟩
end Go.Proofs.Ybulkably
