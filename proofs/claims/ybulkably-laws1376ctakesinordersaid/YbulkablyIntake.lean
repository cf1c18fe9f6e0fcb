import Derived.Test.YbulkablyTakeEnd
import Derived.Deep.LoopGhost
import Derived.OpenShut
namespace Go.Proofs.Ybulkably
open Go.Conc Go.RowKit Go.MuLone

theorem info29 : ∃ i, Yba.prog.info? 29 = some i ∧ i.bytes = 24 := by
  have h : (Yba.prog.info? 29).map (·.bytes) = some 24 := by kernel_rfl
  obtain ⟨i, hi, hb⟩ := Option.map_eq_some_iff.1 h
  exact ⟨i, hi, hb⟩
theorem info39 : ∃ i, Yba.prog.info? 39 = some i ∧ i.bytes = 0 := by
  have h : (Yba.prog.info? 39).map (·.bytes) = some 0 := by kernel_rfl
  obtain ⟨i, hi, hb⟩ := Option.map_eq_some_iff.1 h
  exact ⟨i, hi, hb⟩
theorem mk27 (n : Nat) (hn : n ≤ 100000) (w : World) : (Instr.makeChan 27 (.int .i64 n)).run Yba.prog w = .ok (.chan (some w.heap.size)) (w.alloc (.chan n #[] false 0 0 false)) := by
  obtain ⟨i, hi, hb⟩ := info29
  exact run_makeChan (P := Yba.prog) (w := w) Yba.underlying27 hi .i64 n (by omega) (by rw [hb]; omega)
theorem mk30 (n : Nat) (hn : n ≤ 100000) (w : World) : (Instr.makeChan 30 (.int .i64 n)).run Yba.prog w = .ok (.chan (some w.heap.size)) (w.alloc (.chan n #[] false 0 0 false)) := by
  obtain ⟨i, hi, hb⟩ := info39
  exact run_makeChan (P := Yba.prog) (w := w) Yba.underlying30 hi .i64 n (by omega) (by rw [hb]; omega)

/-- The element that goes for the number v. -/
def elem (v : Int) : Value := .agg #[.int .i64 v, .nilIface]
/-- The first j numbers, sent. -/
def sent (zs : List Int) (j : Nat) : Array Value := ((zs.take j).map elem).toArray
theorem sent_size (zs : List Int) (j : Nat) (h : j ≤ zs.length) : (sent zs j).size = j := by simp [sent]; omega
theorem sent_push (zs : List Int) (j : Nat) (h : j < zs.length) : (sent zs j).push (elem (zs.getD j 0)) = sent zs (j + 1) := by
  unfold sent
  rw [List.take_succ_eq_append_getElem h, List.map_append]
  simp [List.getD_eq_getElem?_getD, h]

/-- WHAT THE WALK IS TOLD OF A SLICE OF INTEGERS THAT CAME IN. -/
def IsRow (k : IntKind) (w : World) (a : Option Addr) (len cap : Nat) (zs : List Int) : Prop :=
  (a = none ∧ len = 0 ∧ cap = 0 ∧ zs = []) ∨
  ∃ x, a = some x ∧ len ≤ cap ∧ cap ≤ maxLen ∧ zs.length = cap ∧ (∀ i, i < zs.length → w.cell? (x.add i) = some (.int k (zs.getD i 0))) ∧ ∀ n ∈ zs, (Lit.int k n).wf = true

theorem IsRow.lens {k : IntKind} {w : World} {a : Option Addr} {len cap : Nat} {zs : List Int} (h : IsRow k w a len cap zs) : len ≤ zs.length ∧ len ≤ maxLen := by
  rcases h with ⟨_, rfl, _, rfl⟩ | ⟨x, _, hl, hm, hz, _⟩
  · simp
  · omega
/-- An element's cell. -/
theorem IsRow.at_ {k : IntKind} {w : World} {a : Option Addr} {len cap : Nat} {zs : List Int} (h : IsRow k w a len cap zs) {i : Nat} (hi : i < len) :
    ∃ b off, a = some ⟨b, off, none⟩ ∧ b < w.heap.size ∧ w.cell? ⟨b, off + i, none⟩ = some (.int k (zs.getD i 0)) := by
  rcases h with ⟨_, rfl, _, rfl⟩ | ⟨x, rfl, hl, hm, hz, hc, _⟩
  · omega
  · obtain ⟨b, off, rfl, hc'⟩ := ints_at hc (by omega)
    have h1 := hc' i (by omega)
    exact ⟨b, off, rfl, World.block_lt_of_cell? _ _ h1, h1⟩

/-- Behind j sends: the channel's block; nothing else is new. -/
structure Sending (w : World) (n : Nat) (zs : List Int) (j : Nat) (wr : World) : Prop where
  size : wr.heap.size = w.heap.size + 1
  chan : wr.heap[w.heap.size]? = some (.chan n (sent zs j) false j 0 false)
  below : Below w.heap.size w wr

theorem Sending.start (w : World) (n : Nat) (zs : List Int) : Sending w n zs 0 (w.alloc (.chan n #[] false 0 0 false)) :=
  ⟨by simp, heap_alloc_new w _, (Below.refl _ _).alloc (Nat.le_refl _) _⟩
theorem Sending.next {w wr : World} {n j : Nat} {zs : List Int} (h : Sending w n zs j wr) (hj : j < zs.length) : Sending w n zs (j + 1) (wr.setChan w.heap.size n ((sent zs j).push (elem (zs.getD j 0))) false (j + 1) 0 false) :=
  ⟨by rw [size_setChan, h.size], by rw [sent_push zs j hj]; exact heap_setChan _ _ _ _ _ _ _ _ (by rw [h.size]; omega), below_setChan h.below (Nat.le_refl _) _ _ _ _ _ _⟩

/-- The state at the second loop's head: N is the input's channel, N + 1 'held', N + 2 the context, N + 3 the struct. -/
structure LS (w : World) (n : Nat) (zs : List Int) (k c nx : Int) (idx : Nat) (wr : World) : Prop where
  hS : wr.heap[w.heap.size + 3]? = some (.cells (sBlk w.heap.size (w.heap.size + 1) (ctxV (w.heap.size + 2)) 0 nx) 53)
  hC : wr.heap[w.heap.size + 2]? = some (.cells #[.int .i64 k, .int .i64 c] 59)
  hI : InAt wr w.heap.size n ((sent zs n).extract idx n)
  hH : HeldAt wr (w.heap.size + 1) (n + 2) idx
  below : Below w.heap.size w wr

/-- Behind 'close'. -/
structure Shut (w : World) (n : Nat) (zs : List Int) (wr : World) : Prop where
  size : wr.heap.size = w.heap.size + 1
  chan : wr.heap[w.heap.size]? = some (.chan n (sent zs n) true n 0 false)
  below : Below w.heap.size w wr

theorem Sending.shut {w wr : World} {n : Nat} {zs : List Int} (h : Sending w n zs n wr) : Shut w n zs { wr with heap := wr.heap.setIfInBounds w.heap.size (.chan n (sent zs n) true n 0 false) } :=
  ⟨by simpa using h.size, heap_setChan wr w.heap.size n (sent zs n) true n 0 false (by rw [h.size]; omega), below_setChan h.below (Nat.le_refl _) n (sent zs n) true n 0 false⟩

theorem LS.start {w wc : World} {n : Nat} {zs : List Int} (k nx : Int) (hz : n ≤ zs.length) (h : Shut w n zs wc) :
    LS w n zs k 0 nx 0 (((wc.alloc (.chan (n + 2) #[] false 0 0 false)).alloc (.cells #[.int .i64 k, .int .i64 0] 59)).alloc (.cells (sBlk w.heap.size (w.heap.size + 1) (ctxV (w.heap.size + 2)) 0 nx) 53)) := by
  have hs := h.size
  refine ⟨?_, ?_, ⟨n, 0, ?_⟩, ⟨0, 0, ?_⟩, ?_⟩
  · have := heap_alloc_new ((wc.alloc (.chan (n + 2) #[] false 0 0 false)).alloc (.cells #[.int .i64 k, .int .i64 0] 59)) (.cells (sBlk w.heap.size (w.heap.size + 1) (ctxV (w.heap.size + 2)) 0 nx) 53)
    simpa only [World.size_alloc, hs] using this
  · rw [Below.heap_alloc _ _ _ (by simp [hs])]
    have := heap_alloc_new (wc.alloc (.chan (n + 2) #[] false 0 0 false)) (.cells #[.int .i64 k, .int .i64 0] 59)
    simpa only [World.size_alloc, hs] using this
  · rw [Below.heap_alloc _ _ _ (by simp [hs]; omega), Below.heap_alloc _ _ _ (by simp [hs]; omega), Below.heap_alloc _ _ _ (by simp [hs]), h.chan]
    have e : (sent zs n).extract 0 n = sent zs n := by
      have := sent_size zs n hz
      rw [Array.extract_eq_self_of_le (by omega)]
    rw [e]
  · rw [Below.heap_alloc _ _ _ (by simp [hs]), Below.heap_alloc _ _ _ (by simp [hs])]
    have := heap_alloc_new wc (.chan (n + 2) #[] false 0 0 false)
    simpa only [hs, Array.replicate_zero] using this
  · exact ((h.below.alloc (by omega) _).alloc (by simp; omega) _).alloc (by simp; omega) _

theorem LS.alloc {w wr : World} {n : Nat} {zs : List Int} {k c nx : Int} {idx : Nat} (h : LS w n zs k c nx idx wr) (o : Obj) : LS w n zs k c nx idx (wr.alloc o) := by
  obtain ⟨hS, hC, ⟨s, r, hI⟩, ⟨s', r', hH⟩, hb⟩ := h
  have l1 := lt_of_heap hS
  refine ⟨?_, ?_, ⟨s, r, ?_⟩, ⟨s', r', ?_⟩, hb.alloc (by omega) _⟩
  · rw [Below.heap_alloc _ _ _ l1]; exact hS
  · rw [Below.heap_alloc _ _ _ (by omega)]; exact hC
  · rw [Below.heap_alloc _ _ _ (by omega)]; exact hI
  · rw [Below.heap_alloc _ _ _ (by omega)]; exact hH
theorem LS.drewN {w wr : World} {n : Nat} {zs : List Int} {k c nx : Int} {idx : Nat} (h : LS w n zs k c nx idx wr) (q : Nat) : LS w n zs k c nx idx (wr.drewN q) :=
  ⟨h.hS, h.hC, h.hI, h.hH, h.below.trans ⟨rfl, rfl, rfl, Nat.le_refl _, fun _ _ => rfl⟩⟩
theorem LS.of_no {w wr w' : World} {n : Nat} {zs : List Int} {k c nx : Int} {idx : Nat} (h : LS w n zs k c nx idx wr) (hC' : w'.heap[w.heap.size + 2]? = some (.cells #[.int .i64 k, .int .i64 (c + 1)] 59)) (hk : Kept [w.heap.size + 2] wr w') : LS w n zs k (c + 1) nx idx w' := by
  obtain ⟨hS, hC, ⟨s, r, hI⟩, ⟨s', r', hH⟩, hb⟩ := h
  have l1 := lt_of_heap hS
  refine ⟨?_, hC', ⟨s, r, ?_⟩, ⟨s', r', ?_⟩, hb.trans (hk.below (by omega) (by simp))⟩
  · rw [hk.block _ l1 (by simp)]; exact hS
  · rw [hk.block _ (by omega) (by simp)]; exact hI
  · rw [hk.block _ (by omega) (by simp)]; exact hH
theorem LS.of_ts {w wr w' : World} {n : Nat} {zs : List Int} {k c nx c' nx' : Int} {idx idx' R : Nat} {rv : Array Value} {ibuf : Array Value} (h : LS w n zs k c nx idx wr)
    (ht : TS wr R rv (w.heap.size + 3) w.heap.size (w.heap.size + 1) (w.heap.size + 2) 0 nx' k c' n ibuf (n + 2) idx' w') (hi : ibuf = (sent zs n).extract idx' n) : LS w n zs k c' nx' idx' w' := by
  have l1 := lt_of_heap h.hS
  subst hi
  exact ⟨ht.hS, ht.hC, ht.hI, ht.hH, h.below.trans (ht.hk.below (by omega) (by simp))⟩
theorem ext_size (zs : List Int) (n idx : Nat) (hz : n ≤ zs.length) (hi : idx ≤ n) : ((sent zs n).extract idx n).size = n - idx := by
  have := sent_size zs n hz
  simp [Array.size_extract]; omega
theorem ext_head (zs : List Int) (n idx : Nat) (hz : n ≤ zs.length) (hi : idx < n) : ((sent zs n).extract idx n).getD 0 undef = elem (zs.getD idx 0) := by
  have h1 := sent_size zs n hz
  have h2 : 0 < ((sent zs n).extract idx n).size := by rw [ext_size zs n idx hz (by omega)]; omega
  rw [Array.getD_eq_getD_getElem?, Array.getElem?_eq_getElem h2, Array.getElem_extract]
  simp [sent, List.getD_eq_getElem?_getD, show idx < zs.length by omega]
theorem ext_tail (zs : List Int) (n idx : Nat) (hz : n ≤ zs.length) (hi : idx < n) : ((sent zs n).extract idx n).extract 1 ((sent zs n).extract idx n).size = (sent zs n).extract (idx + 1) n := by
  have h1 := sent_size zs n hz
  rw [Array.extract_extract, ext_size zs n idx hz (by omega)]
  congr 1
  omega
theorem ext_end (zs : List Int) (n : Nat) (hz : n ≤ zs.length) : (sent zs n).extract n n = #[] := by
  apply Array.eq_empty_of_size_eq_zero
  rw [ext_size zs n n hz (Nat.le_refl _)]; omega
/-- 'len' of the two channels. -/
theorem LS.lens {w wr : World} {n : Nat} {zs : List Int} {k c nx : Int} {idx : Nat} (h : LS w n zs k c nx idx wr) (hz : n ≤ zs.length) (hi : idx ≤ n) :
    (∀ q ty, (Builtin.len_ #[30] ty #[.chan (some (w.heap.size + 1))]).run Yba.prog (wr.drewN q) = .ok (.int .i64 idx) (wr.drewN q)) ∧ (∀ q ty, (Builtin.len_ #[27] ty #[.chan (some w.heap.size)]).run Yba.prog (wr.drewN q) = .ok (.int .i64 ((n : Int) - idx)) (wr.drewN q)) := by
  obtain ⟨_, _, ⟨s, r, hI⟩, ⟨s', r', hH⟩, _⟩ := h
  refine ⟨fun q ty => ?_, fun q ty => ?_⟩
  · have := run_len_chan (P := Yba.prog) (w := wr.drewN q) 30 ty Yba.underlying30 hH
    simpa [goInt] using this
  · have := run_len_chan (P := Yba.prog) (w := wr.drewN q) 27 ty Yba.underlying27 hI
    rw [ext_size zs n idx hz hi] at this
    rw [this]
    have e : ((n - idx : Nat) : Int) = (n : Int) - idx := by omega
    simp only [goInt, e]

set_option maxRecDepth 100000 in
set_option maxHeartbeats 1600000 in
theorem intake_walk (a0 : Option Addr) (len0 cap0 : Nat) (z0 : List Int) (a1 : Int) (a2 : Int) (w : World) (w0 : IsRow .i64 w a0 len0 cap0 z0) (w1 : (Lit.int .u8 a1).wf = true) :
    Calls Yba.prog 4 #[.slice a0 len0 cap0, .int .u8 a1, .int .i64 a2] w fun e w' => e = .returned (.bool true) ∧ Below w.heap.size w w' := by
  have hlen := w0.lens
  unfold maxLen at hlen
  obtain ⟨hz, hm⟩ := hlen
  by_cases hbig : 1024 < len0
  · go_enter Yba.func4, Yba.ntmps4
    go_wp2
    go_ret
    exact ⟨rfl, Below.refl _ _⟩
  · have hmk := mk27 len0 (by omega)
    have ha1 : 0 ≤ a1 ∧ a1 ≤ 255 := by simpa [Lit.wf, IntKind.min, IntKind.max, IntKind.bits, IntKind.signed] using w1
    obtain ⟨hb0, hb1⟩ := ha1
    go_enter Yba.func4, Yba.ntmps4
    go_wp2
    clear hmk
    go_loopg [10] len0 (fun g i wr => ∃ j : Nat, j ≤ len0 ∧ g = len0 - j ∧ i = .int .i64 j ∧ Sending w len0 z0 j wr)
    case atStart => exact ⟨0, Nat.zero_le _, rfl, rfl, Sending.start w len0 z0⟩
    case round =>
      obtain ⟨j, hj, rfl, rfl, hsd⟩ := hrel
      have HSD := hide hsd
      clear hsd
      by_cases hlt : j < len0
      · obtain ⟨b, off, rfl, hbl, hcell⟩ := w0.at_ hlt
        have hcr : wr.cell? ⟨b, off + j, none⟩ = some (.int .i64 (z0.getD j 0)) := by rw [HSD.out.below.cell (p := ⟨b, off + j, none⟩) hbl]; exact hcell
        clear hcell
        go_upto_region 9 with fail
        refine wp_region_comm_k [_, _, _, _, _, _] _ [] rfl (fun K hK => ?_)
        simp only [List.cons_append, List.nil_append] at hK ⊢
        go_wp2
        refine ⟨_, _, commTo_send (c := w.heap.size) (v := elem (z0.getD j 0)) (z' := .tuple #[]) (cap := len0) (buf := sent z0 j) (s := j) (r := 0) (tm := false) (w₁ := wr) (by simp [go_sem, execOp, scase, Act.eval, elem]) HSD.out.chan (by rw [sent_size _ _ (by omega)]; exact hlt), ?_⟩
        have hs2 := HSD.out.next (by omega)
        have HS2 := hide hs2
        clear hs2
        simp only [Act.put]
        go_wp2
        go_roundg (len0 - (j + 1))
        case measure => omega
        case rel => exact ⟨j + 1, by omega, rfl, by go_num, HS2.out⟩
      · go_upto_region 10 with fail
        obtain rfl : j = len0 := by omega
        have hcl := fun ats ty => run_close_open (P := Yba.prog) ats ty HSD.out.chan
        go_cut [10] from 36 to 47 (fun x wx => Shut w j z0 wx)
        case first =>
          go_wp2
          go_meet
          case rel => exact HSD.out.shut
        case rest =>
          have HSH := hide hcut
          have hsz := hcut.size
          clear hcut hcl HSD
          have hmk : ∀ w, (Instr.makeChan 30 (.int .i64 (j + 2))).run Yba.prog w = .ok (.chan (some w.heap.size)) (w.alloc (.chan (j + 2) #[] false 0 0 false)) := by
            intro w
            have := mk30 (j + 2) (by omega) w
            simpa using this
          go_upto_region 18 with fail
          go_cut [12, 13, 14, 15, 16, 17, 18] from 48 to 61 (fun s12 s13 s14 s15 s16 s17 s18 wx => s12 = .pointer (some ⟨w.heap.size + 2, 0, none⟩) ∧ s13 = .pointer (some ⟨w.heap.size + 3, 0, none⟩) ∧ s14 = .int .i64 0 ∧ s15 = .int .i64 0 ∧ s16 = .int .i64 0 ∧ s17 = .int .i64 a2 ∧ s18 = .int .i64 0 ∧ LS w j z0 (a1 % (2 * j + 4)) 0 a2 0 wx)
          case first =>
            go_wp2
            go_meet
            case rel => exact ⟨rfl, rfl, rfl, rfl, rfl, rfl, rfl, LS.start _ _ hz HSH.out⟩
          case rest =>
            obtain ⟨rfl, rfl, rfl, rfl, rfl, rfl, rfl, hls⟩ := hcut
            clear HSH hmk hsz
            have HLS := hide hls
            clear hls
            obtain ⟨k, hk⟩ : ∃ k : Int, k = a1 % (2 * j + 4) := ⟨_, rfl⟩
            have hk0 : 0 ≤ k := by rw [hk]; exact Int.emod_nonneg _ (by omega)
            have hk1 : k < 2 * j + 4 := by rw [hk]; exact Int.emod_lt_of_pos _ (by omega)
            rw [← hk] at HLS ⊢
            clear hk
            go_wp2
            go_loopg [14, 15, 16, 17, 18] (j + 2) (fun g s14 s15 s16 s17 s18 wr => ∃ (t idx : Nat) (c nx : Int), t ≤ j + 2 ∧ g = j + 2 - t ∧ idx ≤ j ∧ 0 ≤ c ∧ c ≤ 2 * t ∧ s14 = .int .i64 c ∧ s15 = .int .i64 idx ∧ s16 = .int .i64 idx ∧ s17 = .int .i64 nx ∧ s18 = .int .i64 t ∧ LS w j z0 k c nx idx wr)
            case atStart => exact ⟨0, 0, 0, a2, by omega, rfl, by omega, by omega, by omega, rfl, rfl, rfl, rfl, rfl, HLS.out⟩
            case round =>
              obtain ⟨t, idx, c, nx, ht, rfl, hidx, hc0, hct, rfl, rfl, rfl, rfl, rfl, hls⟩ := hrel
              clear HLS
              have HLS := hide hls
              clear hls
              by_cases hlt : t < j + 2
              · go_upto_region 21 with fail
                by_cases hA : k < c + 1
                · have hA2 : ¬ c + 1 ≤ k := by omega
                  go_cut [19, 20, 21] from 62 to 161 (fun s19 s20 s21 wx => s19 = .int .i64 0 ∧ s21 = .bool false ∧ ∃ rb, s20 = .pointer (some ⟨rb, 0, none⟩) ∧ wx.heap[rb]? = some (.cells #[.int .i64 0, .nilIface] 29) ∧ LS w j z0 k (c + 1) nx idx wx)
                  case first =>
                    go_wp2_with (go_at_call 7; refine (take_no (w.heap.size + 3) w.heap.size (w.heap.size + 1) (w.heap.size + 2) k c nx _ HLS.out.hS HLS.out.hC (by omega) (by omega) (by omega)).mono ?_; rintro e w' ⟨rfl, hC', hkk⟩)
                    go_meet
                    case rel => exact ⟨rfl, rfl, w'.heap.size, rfl, heap_alloc_new _ _, (HLS.out.of_no hC' hkk).alloc _⟩
                  case rest =>
                    obtain ⟨rfl, rfl, rb, rfl, hrb, hls⟩ := hcut
                    have r0 := cell_of (o := 0) hrb (v := .int .i64 0) rfl
                    have r1 := cell_of (o := 1) hrb (v := .nilIface) rfl
                    have q8 := cell_of (o := 8) hls.hS (v := .int .i64 nx) rfl
                    have q1 := cell_of (o := 1) hls.hC (v := .int .i64 (c + 1)) rfl
                    have hl1 := (hls.lens hz (by omega)).1
                    have hl2 := (hls.lens hz (by omega)).2
                    have hl3 := hl1 0
                    have hl4 := hl2 0
                    simp only [World.drewN_zero] at hl3 hl4
                    have HLS2 := hide hls
                    clear hls hrb HLS
                    go_wp2
                    go_roundg (j + 2 - (t + 1))
                    case measure => omega
                    case rel => exact ⟨t + 1, idx, (c + 1), nx, by omega, rfl, by omega, by omega, by omega, by go_num, by go_num, by go_num, by go_num, by go_num, HLS2.out⟩
                by_cases hB : k < c + 2
                · have hB2 : c + 1 ≤ k := by omega
                  go_cut [19, 20, 21] from 62 to 161 (fun s19 s20 s21 wx => s19 = .int .i64 0 ∧ s21 = .bool false ∧ ∃ rb, s20 = .pointer (some ⟨rb, 0, none⟩) ∧ wx.heap[rb]? = some (.cells #[.int .i64 0, .nilIface] 29) ∧ LS w j z0 k (c + 2) nx idx wx)
                  case first =>
                    go_wp2_with (go_at_call 7; refine (take_stop (w.heap.size + 3) w.heap.size (w.heap.size + 1) (w.heap.size + 2) j (j + 2) idx _ k c nx _ HLS.out.hS HLS.out.hC HLS.out.hI HLS.out.hH (by omega) (by omega) (by omega) (by omega) (by omega)).mono ?_; rintro e w' ⟨rfl, hts⟩)
                    go_meet
                    case rel => exact ⟨rfl, rfl, w'.heap.size, rfl, heap_alloc_new _ _, (HLS.out.of_ts hts rfl).alloc _⟩
                  case rest =>
                    obtain ⟨rfl, rfl, rb, rfl, hrb, hls⟩ := hcut
                    have r0 := cell_of (o := 0) hrb (v := .int .i64 0) rfl
                    have r1 := cell_of (o := 1) hrb (v := .nilIface) rfl
                    have q8 := cell_of (o := 8) hls.hS (v := .int .i64 nx) rfl
                    have q1 := cell_of (o := 1) hls.hC (v := .int .i64 (c + 2)) rfl
                    have hl1 := (hls.lens hz (by omega)).1
                    have hl2 := (hls.lens hz (by omega)).2
                    have hl3 := hl1 0
                    have hl4 := hl2 0
                    simp only [World.drewN_zero] at hl3 hl4
                    have HLS2 := hide hls
                    clear hls hrb HLS
                    go_wp2
                    go_roundg (j + 2 - (t + 1))
                    case measure => omega
                    case rel => exact ⟨t + 1, idx, (c + 2), nx, by omega, rfl, by omega, by omega, by omega, by go_num, by go_num, by go_num, by go_num, by go_num, HLS2.out⟩
                by_cases hin : idx < j
                · have hB2 : c + 1 ≤ k := by omega
                  have hB3 : ¬ k < c + 2 := by omega
                  go_cut [19, 20, 21] from 62 to 161 (fun s19 s20 s21 wx => s19 = .int .i64 nx ∧ s21 = .bool true ∧ ∃ rb, s20 = .pointer (some ⟨rb, 0, none⟩) ∧ wx.heap[rb]? = some (.cells #[.int .i64 (z0.getD idx 0), .nilIface] 29) ∧ LS w j z0 k (c + 2) (wrap64 (nx + 1)) (idx + 1) wx)
                  case first =>
                    go_wp2_with (go_at_call 7; refine (take_val (w.heap.size + 3) w.heap.size (w.heap.size + 1) (w.heap.size + 2) j (j + 2) idx _ k c nx (.int .i64 (z0.getD idx 0)) .nilIface rfl rfl _ HLS.out.hS HLS.out.hC HLS.out.hI HLS.out.hH (by omega) (by rw [ext_size z0 j idx hz hidx]; omega) (ext_head z0 j idx hz hin) (by omega) (by omega) (by omega)).mono ?_; rintro e w' ⟨rfl, hts⟩)
                    go_meet
                    case rel => exact ⟨rfl, rfl, w'.heap.size, rfl, heap_alloc_new _ _, (HLS.out.of_ts hts (ext_tail z0 j idx hz hin)).alloc _⟩
                  case rest =>
                    obtain ⟨rfl, rfl, rb, rfl, hrb, hls⟩ := hcut
                    have r0 := cell_of (o := 0) hrb (v := .int .i64 (z0.getD idx 0)) rfl
                    have r1 := cell_of (o := 1) hrb (v := .nilIface) rfl
                    have q8 := cell_of (o := 8) hls.hS (v := .int .i64 (wrap64 (nx + 1))) rfl
                    have q1 := cell_of (o := 1) hls.hC (v := .int .i64 (c + 2)) rfl
                    have hl1 := (hls.lens hz (by omega)).1
                    have hl2 := (hls.lens hz (by omega)).2
                    have hl3 := hl1 0
                    have hl4 := hl2 0
                    simp only [World.drewN_zero] at hl3 hl4
                    obtain ⟨b, off, rfl, hbl, hcell⟩ := w0.at_ hin
                    have hcr : wc.cell? ⟨b, off + idx, none⟩ = some (.int .i64 (z0.getD idx 0)) := by rw [hls.below.cell (p := ⟨b, off + idx, none⟩) hbl]; exact hcell
                    clear hcell
                    have HLS2 := hide hls
                    clear hls hrb HLS
                    go_upto_region 33 with fail
                    go_quiet (fail)
                    go_wp2
                    go_roundg (j + 2 - (t + 1))
                    case measure => omega
                    case rel => exact ⟨t + 1, (idx + 1), (c + 2), (wrap64 (nx + 1)), by omega, rfl, by omega, by omega, by omega, by go_num, by go_num, by go_num, by go_num, by go_num, HLS2.out.drewN _⟩
                · have hie : Hid (idx = j) := by show idx = j; omega
                  have hge : j ≤ idx := by omega
                  have hB2 : c + 1 ≤ k := by omega
                  go_cut [19, 20, 21] from 62 to 161 (fun s19 s20 s21 wx => s19 = .int .i64 0 ∧ s21 = .bool false ∧ ∃ rb, s20 = .pointer (some ⟨rb, 0, none⟩) ∧ wx.heap[rb]? = some (.cells #[.int .i64 0, .nilIface] 29) ∧ LS w j z0 k (c + 2) nx idx wx)
                  case first =>
                    go_wp2_with (go_at_call 7; refine (take_shut (w.heap.size + 3) w.heap.size (w.heap.size + 1) (w.heap.size + 2) j (j + 2) idx _ k c nx _ HLS.out.hS HLS.out.hC HLS.out.hI HLS.out.hH (by omega) (by rw [hie.out]; exact ext_end z0 j hz) (by omega) (by omega) (by omega)).mono ?_; rintro e w' ⟨rfl, hts⟩)
                    go_meet
                    case rel => exact ⟨rfl, rfl, w'.heap.size, rfl, heap_alloc_new _ _, (HLS.out.of_ts hts rfl).alloc _⟩
                  case rest =>
                    obtain ⟨rfl, rfl, rb, rfl, hrb, hls⟩ := hcut
                    have r0 := cell_of (o := 0) hrb (v := .int .i64 0) rfl
                    have r1 := cell_of (o := 1) hrb (v := .nilIface) rfl
                    have q8 := cell_of (o := 8) hls.hS (v := .int .i64 nx) rfl
                    have q1 := cell_of (o := 1) hls.hC (v := .int .i64 (c + 2)) rfl
                    have hl1 := (hls.lens hz (by omega)).1
                    have hl2 := (hls.lens hz (by omega)).2
                    have hl3 := hl1 0
                    have hl4 := hl2 0
                    simp only [World.drewN_zero] at hl3 hl4
                    have HLS2 := hide hls
                    clear hls hrb HLS
                    go_wp2
                    go_roundg (j + 2 - (t + 1))
                    case measure => omega
                    case rel => exact ⟨t + 1, idx, (c + 2), nx, by omega, rfl, by omega, by omega, by omega, by go_num, by go_num, by go_num, by go_num, by go_num, HLS2.out⟩
              · go_wp2
                go_ret
                exact ⟨rfl, HLS.out.below⟩
end Go.Proofs.Ybulkably
