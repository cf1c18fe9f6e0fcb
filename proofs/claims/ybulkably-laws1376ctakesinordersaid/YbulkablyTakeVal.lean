import Derived.Test.YbulkablyTake
namespace Go.Proofs.Ybulkably
open Go.Conc Go.RowKit Go.MuLone

theorem hide {p : Prop} (h : p) : Hid p := h
/-- What take knows of the world, from its first communication on: the struct, the context, the two channels, its own result variable (block R), and what it has left as it was. -/
structure TS (w0 : World) (R : Nat) (rv : Array Value) (bs ci ch bc : Nat) (st nx k c : Int) (icap : Nat) (ibuf : Array Value) (hcap hn : Nat) (w : World) : Prop where
  hR : w.heap[R]? = some (.cells rv 29)
  hS : w.heap[bs]? = some (.cells (sBlk ci ch (ctxV bc) st nx) 53)
  hC : w.heap[bc]? = some (.cells #[.int .i64 k, .int .i64 c] 59)
  hI : InAt w ci icap ibuf
  hH : HeldAt w ch hcap hn
  hk : Kept [bc, ch, ci, bs] w0 w

section
variable {w0 w w' : World} {R bs ci ch bc icap hcap hn : Nat} {rv ibuf : Array Value} {st nx k c : Int}
theorem TS.drew (h : TS w0 R rv bs ci ch bc st nx k c icap ibuf hcap hn w) : TS w0 R rv bs ci ch bc st nx k c icap ibuf hcap hn w.drew :=
  ⟨h.hR, h.hS, h.hC, h.hI, h.hH, h.hk.drew⟩
/-- The blocks are five. -/
theorem TS.apart (h : TS w0 R rv bs ci ch bc st nx k c icap ibuf hcap hn w) : bs ≠ bc ∧ bs ≠ ci ∧ bs ≠ ch ∧ bc ≠ ci ∧ bc ≠ ch ∧ ci ≠ ch ∧ R ≠ bs ∧ R ≠ bc ∧ R ≠ ci ∧ R ≠ ch := by
  obtain ⟨hR, hS, hC, ⟨s, r, hI⟩, ⟨s', r', hH⟩, _⟩ := h
  refine ⟨?_, ?_, ?_, ?_, ?_, ?_, ?_, ?_, ?_, ?_⟩ <;> rintro rfl
  · rw [hS] at hC; cases hC
  · rw [hS] at hI; cases hI
  · rw [hS] at hH; cases hH
  · rw [hC] at hI; cases hI
  · rw [hC] at hH; cases hH
  · rw [hI] at hH; cases hH
  · rw [hR] at hS; cases hS
  · rw [hR] at hC; cases hC
  · rw [hR] at hI; cases hI
  · rw [hR] at hH; cases hH
theorem TS.setR (h : TS w0 R rv bs ci ch bc st nx k c icap ibuf hcap hn w) (hle : w0.heap.size ≤ R) (o : Nat) (v : Value) : TS w0 R (rv.setIfInBounds o v) bs ci ch bc st nx k c icap ibuf hcap hn (w.setCell ⟨R, o, none⟩ v) := by
  obtain ⟨_, _, _, _, _, _, a1, a2, a3, a4⟩ := h.apart
  refine ⟨heap_set _ h.hR, ?_, ?_, ?_, ?_, h.hk.setCell (.inr hle) _⟩
  · rw [Below.heap_setCell _ _ _ _ a1.symm]; exact h.hS
  · rw [Below.heap_setCell _ _ _ _ a2.symm]; exact h.hC
  · obtain ⟨s, r, e⟩ := h.hI; exact ⟨s, r, by rw [Below.heap_setCell _ _ _ _ a3.symm]; exact e⟩
  · obtain ⟨s, r, e⟩ := h.hH; exact ⟨s, r, by rw [Below.heap_setCell _ _ _ _ a4.symm]; exact e⟩
theorem TS.setS (h : TS w0 R rv bs ci ch bc st nx k c icap ibuf hcap hn w) (o : Nat) (v : Value) {st' nx' : Int} (hv : (sBlk ci ch (ctxV bc) st nx).setIfInBounds o v = sBlk ci ch (ctxV bc) st' nx') : TS w0 R rv bs ci ch bc st' nx' k c icap ibuf hcap hn (w.setCell ⟨bs, o, none⟩ v) := by
  obtain ⟨a1, a2, a3, _, _, _, a7, _⟩ := h.apart
  refine ⟨?_, by rw [← hv]; exact heap_set _ h.hS, ?_, ?_, ?_, h.hk.setCell (.inl (by simp)) _⟩
  · rw [Below.heap_setCell _ _ _ _ a7]; exact h.hR
  · rw [Below.heap_setCell _ _ _ _ a1.symm]; exact h.hC
  · obtain ⟨s, r, e⟩ := h.hI; exact ⟨s, r, by rw [Below.heap_setCell _ _ _ _ a2.symm]; exact e⟩
  · obtain ⟨s, r, e⟩ := h.hH; exact ⟨s, r, by rw [Below.heap_setCell _ _ _ _ a3.symm]; exact e⟩
/-- Behind a call that turns the context and the channel of the input alone. -/
theorem TS.turnI (h : TS w0 R rv bs ci ch bc st nx k c icap ibuf hcap hn w) (hk : Kept [bc, ci] w w') {c' : Int} {ibuf' : Array Value} (hC : w'.heap[bc]? = some (.cells #[.int .i64 k, .int .i64 c'] 59)) (hI : InAt w' ci icap ibuf') : TS w0 R rv bs ci ch bc st nx k c' icap ibuf' hcap hn w' := by
  obtain ⟨a1, a2, a3, a4, a5, a6, a7, a8, a9, a10⟩ := h.apart
  refine ⟨?_, ?_, hC, hI, ?_, h.hk.trans (hk.mono (by simp))⟩
  · rw [hk.block _ (lt_of_heap h.hR) (by simp [a8, a9])]; exact h.hR
  · rw [hk.block _ (lt_of_heap h.hS) (by simp [a1, a2])]; exact h.hS
  · obtain ⟨s, r, e⟩ := h.hH; exact ⟨s, r, by rw [hk.block _ (lt_of_heap e) (by simp [a5.symm, a6.symm])]; exact e⟩
end

theorem rep_push (n : Nat) : (Array.replicate n (Value.agg #[])).push (.agg #[]) = Array.replicate (n + 1) (.agg #[]) := by simp [Array.replicate_succ]

/-- The beginning: region 1, behind which the context has been asked once and 'held' holds one more. -/
theorem ts_start {w wx : World} {bs ci ch bc icap hcap hn : Nat} {ibuf : Array Value} {nx k c : Int} {s r : Nat}
    (hS : w.heap[bs]? = some (.cells (sBlk ci ch (ctxV bc) 0 nx) 53)) (hC : w.heap[bc]? = some (.cells #[.int .i64 k, .int .i64 c] 59)) (hI : InAt w ci icap ibuf) (hH : w.heap[ch]? = some (.chan hcap (Array.replicate hn (.agg #[])) false s r false))
    (hC' : wx.heap[bc]? = some (.cells #[.int .i64 k, .int .i64 (c + 1)] 59)) (hH' : wx.heap[ch]? = some (.chan hcap ((Array.replicate hn (Value.agg #[])).push (.agg #[])) false (s + 1) r false)) (hk : Kept [bc, ch] (w.alloc (.cells #[.int .i64 0, .nilIface] 29)) wx) :
    TS w w.heap.size #[.int .i64 0, .nilIface] bs ci ch bc 0 nx k (c + 1) icap ibuf hcap (hn + 1) wx := by
  obtain ⟨si, ri, hI⟩ := hI
  have l1 := lt_of_heap hS
  have l2 := lt_of_heap hC
  have l3 := lt_of_heap hI
  have l4 := lt_of_heap hH
  have n1 : bs ≠ bc := by rintro rfl; rw [hS] at hC; cases hC
  have n2 : bs ≠ ch := by rintro rfl; rw [hS] at hH; cases hH
  have n3 : ci ≠ bc := by rintro rfl; rw [hI] at hC; cases hC
  have n4 : ci ≠ ch := by rintro rfl; rw [hI] at hH; cases hH
  refine ⟨?_, ?_, hC', ⟨si, ri, ?_⟩, ⟨s + 1, r, by rw [← rep_push]; exact hH'⟩, ((Kept.refl _ _).alloc _).trans (hk.mono (by simp))⟩
  · rw [hk.block _ (by simp) (by simp; omega)]; exact heap_alloc_new w _
  · rw [hk.block _ (by simp; omega) (by simp [n1, n2]), Below.heap_alloc _ _ _ l1]; exact hS
  · rw [hk.block _ (by simp; omega) (by simp [n3, n4]), Below.heap_alloc _ _ _ l3]; exact hI

set_option maxRecDepth 100000 in
set_option maxHeartbeats 1600000 in
theorem take_val (bs ci ch bc icap hcap hn : Nat) (ibuf : Array Value) (k c nx : Int) (x er : Value) (hx : x.oneCell' = true) (her : er.oneCell' = true) (w : World)
    (hS : w.heap[bs]? = some (.cells (sBlk ci ch (ctxV bc) 0 nx) 53)) (hC : w.heap[bc]? = some (.cells #[.int .i64 k, .int .i64 c] 59)) (hI : InAt w ci icap ibuf) (hH : HeldAt w ch hcap hn)
    (hroom : hn < hcap) (hsome : 0 < ibuf.size) (h0 : ibuf.getD 0 undef = .agg #[x, er])
    (hc0 : 0 ≤ c) (hc1 : c ≤ 90000) (hle : c + 2 ≤ k) :
    Calls Yba.prog 7 #[.pointer (some ⟨bs, 0, none⟩)] w fun e w' => e = .returned (.tuple #[.int .i64 nx, .agg #[x, er], .bool true]) ∧
      TS w w.heap.size #[x, er] bs ci ch bc 0 (wrap64 (nx + 1)) k (c + 2) icap (ibuf.extract 1 ibuf.size) hcap (hn + 1) w' := by
  have s0 := cell_of (o := 0) hS (v := .chan (some ci)) rfl
  have s3 := cell_of (o := 3) hS (v := .chan (some ch)) rfl
  have s4 := cell_of (o := 4) hS (v := ctxV bc) rfl
  have hsx := fun (w : World) (a : Addr) (m : Mode) => run_store Yba.prog w a x m hx
  have hse := fun (w : World) (a : Addr) (m : Mode) => run_store Yba.prog w a er m her
  have hl := lt_of_heap hC
  have hls := lt_of_heap hS
  obtain ⟨s, r, hH⟩ := hH
  have hlh := lt_of_heap hH
  have H0 : Hid (ibuf.getD 0 undef = .agg #[x, er]) := h0
  have HS : Hid (w.heap[bs]? = some (.cells (sBlk ci ch (ctxV bc) 0 nx) 53)) := hS
  have HC : Hid (w.heap[bc]? = some (.cells #[.int .i64 k, .int .i64 c] 59)) := hC
  have HI : Hid (InAt w ci icap ibuf) := hI
  have HH : Hid (w.heap[ch]? = some (.chan hcap (Array.replicate hn (.agg #[])) false s r false)) := hH
  clear hC hS hI hH h0
  go_enter_defers Yba.func7, Yba.ntmps7
  go_upto_region 1 with fail
  go_cut [16] from 6 to 16 (fun v wx => v = .bool false ∧ TS w w.heap.size #[.int .i64 0, .nilIface] bs ci ch bc 0 nx k (c + 1) icap ibuf hcap (hn + 1) wx)
  case first =>
    refine wp_strict ?_
    go_region_with (go_at_call 8; refine (deliver_ok bc ch k c _ (s := s) (r := r) (cap := hcap) (buf := Array.replicate hn (.agg #[])) ?_ ?_ (by simpa using hroom) hc0 (by omega) (by omega)).mono ?_; (· show (w.alloc _).heap[bc]? = _; rw [Below.heap_alloc _ _ _ hl]; exact HC.out); (· show (w.alloc _).heap[ch]? = _; rw [Below.heap_alloc _ _ _ hlh]; exact HH.out); rintro e w' ⟨rfl, hC', hH', hk⟩)
    all_goals
      go_wp2_with fail
      go_meet
      case rel =>
        exact ⟨rfl, ts_start HS.out HC.out HI.out HH.out hC' hH' hk.undrew⟩
  case rest =>
    obtain ⟨rfl, hts⟩ := hcut
    have m6 := cell_of (o := 6) hts.hS (v := .int .i32 0) rfl
    have z6 := frozen_of (o := 6) hts.hS
    have HT : Hid (TS w w.heap.size #[.int .i64 0, .nilIface] bs ci ch bc 0 nx k (c + 1) icap ibuf hcap (hn + 1) wc) := hts
    clear hts
    go_wp2_with fail
    refine (lock_free Yba.muLib ⟨bs, 6, none⟩ _ m6 z6).mono ?_
    rintro e w1 ⟨rfl, hw1⟩
    have hts1 : TS w w.heap.size #[.int .i64 0, .nilIface] bs ci ch bc 1 nx k (c + 1) icap ibuf hcap (hn + 1) w1 := by
      rw [hw1]; exact HT.out.setS 6 _ rfl
    clear hw1 m6 z6
    have q0 := cell_of (o := 0) hts1.hS (v := .chan (some ci)) rfl
    have q4 := cell_of (o := 4) hts1.hS (v := ctxV bc) rfl
    have f0 := frozen_of (o := 0) hts1.hR
    have f1 := frozen_of (o := 1) hts1.hR
    have HT1 : Hid (TS w w.heap.size #[.int .i64 0, .nilIface] bs ci ch bc 1 nx k (c + 1) icap ibuf hcap (hn + 1) w1) := hts1
    clear hts1
    go_upto_region 5 with fail
    obtain ⟨si, ri, hI1⟩ := HT1.out.hI
    have HI1 : Hid (w1.heap[ci]? = some (.chan icap ibuf true si ri false)) := hI1
    clear hI1
    go_cut [4, 5] from 25 to 37 (fun a b wx => a = .bool true ∧ b = .nilIface ∧ TS w w.heap.size #[x, er] bs ci ch bc 1 nx k (c + 2) icap (ibuf.extract 1 ibuf.size) hcap (hn + 1) wx)
    case first =>
      refine wp_strict ?_
      go_region_with (go_at_call 11; refine (receive_val bc ci k (c + 1) x er hx her _ (cap := icap) (buf := ibuf) (closed := true) (s := si) (r := ri) ?_ ?_ hsome H0.out (by omega) (by omega) (by omega)).mono ?_; (· exact HT1.out.hC); (· exact HI1.out); rintro e w' ⟨rfl, hC', hI', hk⟩; have ht2 := HT1.out.turnI hk.undrew hC' ⟨_, _, hI'⟩; have g0 := cell_of (o := 0) ht2.hR (v := .int .i64 0) rfl; have g1 := cell_of (o := 1) ht2.hR (v := .nilIface) rfl; have f0 := frozen_of (o := 0) ht2.hR; have f1 := frozen_of (o := 1) ht2.hR; have HT2 := hide ht2; clear ht2 hC' hI' hk)
      all_goals
        go_wp2_with fail
        go_meet
        case rel =>
          have ht := (HT2.out.setR (Nat.le_refl _) 0 x).setR (Nat.le_refl _) 1 er
          have e2 : c + 1 + 1 = c + 2 := by omega
          rw [e2] at ht
          exact ⟨rfl, rfl, ht⟩
    case rest =>
      obtain ⟨rfl, rfl, ht3⟩ := hcut
      have q8 := cell_of (o := 8) ht3.hS (v := .int .i64 nx) rfl
      have z8 := frozen_of (o := 8) ht3.hS
      have g0 := cell_of (o := 0) ht3.hR (v := x) rfl
      have g1 := cell_of (o := 1) ht3.hR (v := er) rfl
      have f0 := frozen_of (o := 0) ht3.hR
      have f1 := frozen_of (o := 1) ht3.hR
      have hne : ¬ bs = w.heap.size := by omega
      have HT3 := hide ht3
      clear ht3
      go_upto_region 11 with fail
      have ht4 := HT3.out.setS 8 (.int .i64 (wrap64 (nx + 1))) (st' := 1) (nx' := wrap64 (nx + 1)) rfl
      have HT4 := hide ht4
      clear ht4
      go_cut [2, 4] from 61 to 62 (fun a b wx => a = .int .i64 nx ∧ b = .bool true ∧ TS w w.heap.size #[x, er] bs ci ch bc 1 (wrap64 (nx + 1)) k (c + 2) icap (ibuf.extract 1 ibuf.size) hcap (hn + 1) wx)
      case first =>
        refine wp_strict ?_
        go_region
        all_goals
          go_wp2_with fail
          go_meet
          case rel =>
            exact ⟨rfl, rfl, ((HT4.out.setR (Nat.le_refl _) 0 x).setR (Nat.le_refl _) 1 er).drew⟩
      case rest =>
        obtain ⟨rfl, rfl, ht5⟩ := hcut
        have m6 := cell_of (o := 6) ht5.hS (v := .int .i32 1) rfl
        have z6 := frozen_of (o := 6) ht5.hS
        have ht6 := ht5.setS 6 (.int .i32 0) (st' := 0) (nx' := wrap64 (nx + 1)) rfl
        have k0 := cell_of (o := 0) ht6.hR (v := x) rfl
        have k1 := cell_of (o := 1) ht6.hR (v := er) rfl
        have HT6 := hide ht6
        clear ht6 ht5
        go_wp2_with fail
        refine leaves_cons (f := 10) (args := #[.pointer (some ⟨bs, 6, none⟩)]) (by simp) (by simp [go_sem]) ?_
        refine (unlock_deferred Yba.muLib ⟨bs, 6, none⟩ .returning _ m6 z6).mono ?_
        rintro e u' w'' ⟨rfl, rfl, rfl⟩
        exact ⟨.tuple #[.int .i64 nx, .agg #[x, er], .bool true], by simp [results, Yba.results7, go_sem, k0, k1], rfl, HT6.out⟩
end Go.Proofs.Ybulkably
