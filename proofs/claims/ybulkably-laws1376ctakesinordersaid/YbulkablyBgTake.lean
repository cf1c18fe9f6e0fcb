/-
  take with context.Background(): an element; the closed, empty channel.
-/
import Derived.Test.YbulkablyBg
namespace Go.Proofs.Ybulkably
open Go.Conc Go.RowKit Go.MuLone

/-- 'TS' without a context of the law's own. -/
structure TB (w0 : World) (R : Nat) (rv : Array Value) (bs ci ch : Nat) (st nx : Int) (icap : Nat) (ibuf : Array Value) (hcap hn : Nat) (w : World) : Prop where
  hR : w.heap[R]? = some (.cells rv 29)
  hS : w.heap[bs]? = some (.cells (sBlk ci ch bgV st nx) 53)
  hI : InAt w ci icap ibuf
  hH : HeldAt w ch hcap hn
  hk : Kept [ch, ci, bs] w0 w

section
variable {w0 w w' : World} {R bs ci ch icap hcap hn : Nat} {rv ibuf : Array Value} {st nx : Int}
theorem TB.drew (h : TB w0 R rv bs ci ch st nx icap ibuf hcap hn w) : TB w0 R rv bs ci ch st nx icap ibuf hcap hn w.drew :=
  ⟨h.hR, h.hS, h.hI, h.hH, h.hk.drew⟩
theorem TB.apart (h : TB w0 R rv bs ci ch st nx icap ibuf hcap hn w) : bs ≠ ci ∧ bs ≠ ch ∧ ci ≠ ch ∧ R ≠ bs ∧ R ≠ ci ∧ R ≠ ch := by
  obtain ⟨hR, hS, ⟨s, r, hI⟩, ⟨s', r', hH⟩, _⟩ := h
  refine ⟨?_, ?_, ?_, ?_, ?_, ?_⟩ <;> rintro rfl
  · rw [hS] at hI; cases hI
  · rw [hS] at hH; cases hH
  · rw [hI] at hH; cases hH
  · rw [hR] at hS; cases hS
  · rw [hR] at hI; cases hI
  · rw [hR] at hH; cases hH
theorem TB.setR (h : TB w0 R rv bs ci ch st nx icap ibuf hcap hn w) (hle : w0.heap.size ≤ R) (o : Nat) (v : Value) : TB w0 R (rv.setIfInBounds o v) bs ci ch st nx icap ibuf hcap hn (w.setCell ⟨R, o, none⟩ v) := by
  obtain ⟨_, _, _, a1, a3, a4⟩ := h.apart
  refine ⟨heap_set _ h.hR, ?_, ?_, ?_, h.hk.setCell (.inr hle) _⟩
  · rw [Below.heap_setCell _ _ _ _ a1.symm]; exact h.hS
  · obtain ⟨s, r, e⟩ := h.hI; exact ⟨s, r, by rw [Below.heap_setCell _ _ _ _ a3.symm]; exact e⟩
  · obtain ⟨s, r, e⟩ := h.hH; exact ⟨s, r, by rw [Below.heap_setCell _ _ _ _ a4.symm]; exact e⟩
theorem TB.setS (h : TB w0 R rv bs ci ch st nx icap ibuf hcap hn w) (o : Nat) (v : Value) {st' nx' : Int} (hv : (sBlk ci ch bgV st nx).setIfInBounds o v = sBlk ci ch bgV st' nx') : TB w0 R rv bs ci ch st' nx' icap ibuf hcap hn (w.setCell ⟨bs, o, none⟩ v) := by
  obtain ⟨a2, a3, _, a7, _⟩ := h.apart
  refine ⟨?_, by rw [← hv]; exact heap_set _ h.hS, ?_, ?_, h.hk.setCell (.inl (by simp)) _⟩
  · rw [Below.heap_setCell _ _ _ _ a7]; exact h.hR
  · obtain ⟨s, r, e⟩ := h.hI; exact ⟨s, r, by rw [Below.heap_setCell _ _ _ _ a2.symm]; exact e⟩
  · obtain ⟨s, r, e⟩ := h.hH; exact ⟨s, r, by rw [Below.heap_setCell _ _ _ _ a3.symm]; exact e⟩
theorem TB.turnI (h : TB w0 R rv bs ci ch st nx icap ibuf hcap hn w) (hk : Kept [ci] w w') {ibuf' : Array Value} (hI : InAt w' ci icap ibuf') : TB w0 R rv bs ci ch st nx icap ibuf' hcap hn w' := by
  obtain ⟨a2, a3, a6, a7, a9, a10⟩ := h.apart
  refine ⟨?_, ?_, hI, ?_, h.hk.trans (hk.mono (by simp))⟩
  · rw [hk.block _ (lt_of_heap h.hR) (by simp [a9])]; exact h.hR
  · rw [hk.block _ (lt_of_heap h.hS) (by simp [a2])]; exact h.hS
  · obtain ⟨s, r, e⟩ := h.hH; exact ⟨s, r, by rw [hk.block _ (lt_of_heap e) (by simp [a6.symm])]; exact e⟩
end
theorem tb_start {w wx : World} {bs ci ch icap hcap hn : Nat} {ibuf : Array Value} {nx : Int} {s r : Nat}
    (hS : w.heap[bs]? = some (.cells (sBlk ci ch bgV 0 nx) 53)) (hI : InAt w ci icap ibuf) (hH : w.heap[ch]? = some (.chan hcap (Array.replicate hn (.agg #[])) false s r false))
    (hH' : wx.heap[ch]? = some (.chan hcap ((Array.replicate hn (Value.agg #[])).push (.agg #[])) false (s + 1) r false)) (hk : Kept [ch] (w.alloc (.cells #[.int .i64 0, .nilIface] 29)) wx) :
    TB w w.heap.size #[.int .i64 0, .nilIface] bs ci ch 0 nx icap ibuf hcap (hn + 1) wx := by
  obtain ⟨si, ri, hI⟩ := hI
  have l1 := lt_of_heap hS
  have l3 := lt_of_heap hI
  have l4 := lt_of_heap hH
  have n2 : bs ≠ ch := by rintro rfl; rw [hS] at hH; cases hH
  have n4 : ci ≠ ch := by rintro rfl; rw [hI] at hH; cases hH
  refine ⟨?_, ?_, ⟨si, ri, ?_⟩, ⟨s + 1, r, by rw [← rep_push]; exact hH'⟩, ((Kept.refl _ _).alloc _).trans (hk.mono (by simp))⟩
  · rw [hk.block _ (by simp) (by simp; omega)]; exact heap_alloc_new w _
  · rw [hk.block _ (by simp; omega) (by simp [n2]), Below.heap_alloc _ _ _ l1]; exact hS
  · rw [hk.block _ (by simp; omega) (by simp [n4]), Below.heap_alloc _ _ _ l3]; exact hI
theorem TB.popH {w0 w : World} {R bs ci ch icap hcap hn : Nat} {rv ibuf : Array Value} {st nx : Int} {s r : Nat} (h : TB w0 R rv bs ci ch st nx icap ibuf hcap (hn + 1) w) (hH : w.heap[ch]? = some (.chan hcap (Array.replicate (hn + 1) (.agg #[])) false s r false)) :
    TB w0 R rv bs ci ch st nx icap ibuf hcap hn (w.setChan ch hcap ((Array.replicate (hn + 1) (Value.agg #[])).extract 1 (Array.replicate (hn + 1) (Value.agg #[])).size) false s (r + 1) false) := by
  obtain ⟨a2, a3, a6, a7, a9, a10⟩ := h.apart
  have key : ∀ j, j ≠ ch → (w.setChan ch hcap ((Array.replicate (hn + 1) (Value.agg #[])).extract 1 (Array.replicate (hn + 1) (Value.agg #[])).size) false s (r + 1) false).heap[j]? = w.heap[j]? := by
    intro j hj
    simp only [World.setChan]
    rw [Array.getElem?_setIfInBounds_ne hj.symm]
  refine ⟨(key _ a10).trans h.hR, (key _ a3).trans h.hS, ?_, ⟨s, r + 1, ?_⟩, h.hk.setChan (by simp) _ _ _ _ _ _⟩
  · obtain ⟨si, ri, e⟩ := h.hI; exact ⟨si, ri, (key _ a6).trans e⟩
  · rw [heap_setChan _ _ _ _ _ _ _ _ (lt_of_heap hH), rep_pop]

set_option maxRecDepth 100000 in
set_option maxHeartbeats 1600000 in
theorem take_val_bg (bs ci ch icap hcap hn : Nat) (ibuf : Array Value) (nx : Int) (x er : Value) (hx : x.oneCell' = true) (her : er.oneCell' = true) (w : World)
    (hS : w.heap[bs]? = some (.cells (sBlk ci ch bgV 0 nx) 53)) (hI : InAt w ci icap ibuf) (hH : HeldAt w ch hcap hn)
    (hroom : hn < hcap) (hsome : 0 < ibuf.size) (h0 : ibuf.getD 0 undef = .agg #[x, er]) :
    Calls Yba.prog 7 #[.pointer (some ⟨bs, 0, none⟩)] w fun e w' => e = .returned (.tuple #[.int .i64 nx, .agg #[x, er], .bool true]) ∧
      TB w w.heap.size #[x, er] bs ci ch 0 (wrap64 (nx + 1)) icap (ibuf.extract 1 ibuf.size) hcap (hn + 1) w' := by
  have s0 := cell_of (o := 0) hS (v := .chan (some ci)) rfl
  have s3 := cell_of (o := 3) hS (v := .chan (some ch)) rfl
  have s4 := cell_of (o := 4) hS (v := bgV) rfl
  have hsx := fun (w : World) (a : Addr) (m : Mode) => run_store Yba.prog w a x m hx
  have hse := fun (w : World) (a : Addr) (m : Mode) => run_store Yba.prog w a er m her
  have hls := lt_of_heap hS
  obtain ⟨s, r, hH⟩ := hH
  have hlh := lt_of_heap hH
  have H0 : Hid (ibuf.getD 0 undef = .agg #[x, er]) := h0
  have HS : Hid (w.heap[bs]? = some (.cells (sBlk ci ch bgV 0 nx) 53)) := hS
  have HI : Hid (InAt w ci icap ibuf) := hI
  have HH : Hid (w.heap[ch]? = some (.chan hcap (Array.replicate hn (.agg #[])) false s r false)) := hH
  clear hS hI hH h0
  go_enter_defers Yba.func7, Yba.ntmps7
  go_upto_region 1 with fail
  go_cut [16] from 6 to 16 (fun v wx => v = .bool false ∧ TB w w.heap.size #[.int .i64 0, .nilIface] bs ci ch 0 nx icap ibuf hcap (hn + 1) wx)
  case first =>
    refine wp_strict ?_
    go_region_with (go_at_call 8; refine (deliver_bg ch _ (s := s) (r := r) (cap := hcap) (buf := Array.replicate hn (.agg #[])) ?_ (by simpa using hroom)).mono ?_; (· show (w.alloc _).heap[ch]? = _; rw [Below.heap_alloc _ _ _ hlh]; exact HH.out); rintro e w' ⟨rfl, hH', hk⟩)
    all_goals
      go_wp2_with fail
      go_meet
      case rel =>
        exact ⟨rfl, tb_start HS.out HI.out HH.out hH' hk.undrew⟩
  case rest =>
    obtain ⟨rfl, hts⟩ := hcut
    have m6 := cell_of (o := 6) hts.hS (v := .int .i32 0) rfl
    have z6 := frozen_of (o := 6) hts.hS
    have HT : Hid (TB w w.heap.size #[.int .i64 0, .nilIface] bs ci ch 0 nx icap ibuf hcap (hn + 1) wc) := hts
    clear hts
    go_wp2_with fail
    refine (lock_free Yba.muLib ⟨bs, 6, none⟩ _ m6 z6).mono ?_
    rintro e w1 ⟨rfl, hw1⟩
    have hts1 : TB w w.heap.size #[.int .i64 0, .nilIface] bs ci ch 1 nx icap ibuf hcap (hn + 1) w1 := by
      rw [hw1]; exact HT.out.setS 6 _ rfl
    clear hw1 m6 z6
    have q0 := cell_of (o := 0) hts1.hS (v := .chan (some ci)) rfl
    have q4 := cell_of (o := 4) hts1.hS (v := bgV) rfl
    have f0 := frozen_of (o := 0) hts1.hR
    have f1 := frozen_of (o := 1) hts1.hR
    have HT1 : Hid (TB w w.heap.size #[.int .i64 0, .nilIface] bs ci ch 1 nx icap ibuf hcap (hn + 1) w1) := hts1
    clear hts1
    go_upto_region 5 with fail
    obtain ⟨si, ri, hI1⟩ := HT1.out.hI
    have HI1 : Hid (w1.heap[ci]? = some (.chan icap ibuf true si ri false)) := hI1
    clear hI1
    go_cut [4, 5] from 25 to 37 (fun a b wx => a = .bool true ∧ b = .nilIface ∧ TB w w.heap.size #[x, er] bs ci ch 1 nx icap (ibuf.extract 1 ibuf.size) hcap (hn + 1) wx)
    case first =>
      refine wp_strict ?_
      go_region_with (go_at_call 11; refine (receive_val_bg ci x er hx her _ (cap := icap) (buf := ibuf) (closed := true) (s := si) (r := ri) ?_ hsome H0.out).mono ?_; (· exact HI1.out); rintro e w' ⟨rfl, hI', hk⟩; have ht2 := HT1.out.turnI hk.undrew ⟨_, _, hI'⟩; have g0 := cell_of (o := 0) ht2.hR (v := .int .i64 0) rfl; have g1 := cell_of (o := 1) ht2.hR (v := .nilIface) rfl; have f0 := frozen_of (o := 0) ht2.hR; have f1 := frozen_of (o := 1) ht2.hR; have HT2 := hide ht2; clear ht2 hI' hk)
      all_goals
        go_wp2_with fail
        go_meet
        case rel =>
          have ht := (HT2.out.setR (Nat.le_refl _) 0 x).setR (Nat.le_refl _) 1 er
          exact ⟨rfl, rfl, ht⟩
    case rest =>
      obtain ⟨rfl, rfl, ht3⟩ := hcut
      have q8 := cell_of (o := 8) ht3.hS (v := .int .i64 nx) rfl
      have z8 := frozen_of (o := 8) ht3.hS
      have g0 := cell_of (o := 0) ht3.hR (v := x) rfl
      have g1 := cell_of (o := 1) ht3.hR (v := er) rfl
      have f0 := frozen_of (o := 0) ht3.hR
      have f1 := frozen_of (o := 1) ht3.hR
      have hne : ¬ bs = w.heap.size := by omega
      have HT3 := hide ht3
      clear ht3
      go_upto_region 11 with fail
      have ht4 := HT3.out.setS 8 (.int .i64 (wrap64 (nx + 1))) (st' := 1) (nx' := wrap64 (nx + 1)) rfl
      have HT4 := hide ht4
      clear ht4
      go_cut [2, 4] from 61 to 62 (fun a b wx => a = .int .i64 nx ∧ b = .bool true ∧ TB w w.heap.size #[x, er] bs ci ch 1 (wrap64 (nx + 1)) icap (ibuf.extract 1 ibuf.size) hcap (hn + 1) wx)
      case first =>
        refine wp_strict ?_
        go_region
        all_goals
          go_wp2_with fail
          go_meet
          case rel =>
            exact ⟨rfl, rfl, ((HT4.out.setR (Nat.le_refl _) 0 x).setR (Nat.le_refl _) 1 er).drew⟩
      case rest =>
        obtain ⟨rfl, rfl, ht5⟩ := hcut
        have m6 := cell_of (o := 6) ht5.hS (v := .int .i32 1) rfl
        have z6 := frozen_of (o := 6) ht5.hS
        have ht6 := ht5.setS 6 (.int .i32 0) (st' := 0) (nx' := wrap64 (nx + 1)) rfl
        have k0 := cell_of (o := 0) ht6.hR (v := x) rfl
        have k1 := cell_of (o := 1) ht6.hR (v := er) rfl
        have HT6 := hide ht6
        clear ht6 ht5
        go_wp2_with fail
        refine leaves_cons (f := 10) (args := #[.pointer (some ⟨bs, 6, none⟩)]) (by simp) (by simp [go_sem]) ?_
        refine (unlock_deferred Yba.muLib ⟨bs, 6, none⟩ .returning _ m6 z6).mono ?_
        rintro e u' w'' ⟨rfl, rfl, rfl⟩
        exact ⟨.tuple #[.int .i64 nx, .agg #[x, er], .bool true], by simp [results, Yba.results7, go_sem, k0, k1], rfl, HT6.out⟩

set_option maxRecDepth 100000 in
set_option maxHeartbeats 1600000 in
theorem take_shut_bg (bs ci ch icap hcap hn : Nat) (ibuf : Array Value) (nx : Int) (w : World)
    (hS : w.heap[bs]? = some (.cells (sBlk ci ch bgV 0 nx) 53)) (hI : InAt w ci icap ibuf) (hH : HeldAt w ch hcap hn)
    (hroom : hn < hcap) (he : ibuf = #[]) :
    Calls Yba.prog 7 #[.pointer (some ⟨bs, 0, none⟩)] w fun e w' => e = .returned (.tuple #[.int .i64 0, .agg #[.int .i64 0, .nilIface], .bool false]) ∧
      TB w w.heap.size #[.int .i64 0, .nilIface] bs ci ch 0 nx icap ibuf hcap hn w' := by
  have s0 := cell_of (o := 0) hS (v := .chan (some ci)) rfl
  have s3 := cell_of (o := 3) hS (v := .chan (some ch)) rfl
  have s4 := cell_of (o := 4) hS (v := bgV) rfl
  have hls := lt_of_heap hS
  obtain ⟨s, r, hH⟩ := hH
  have hlh := lt_of_heap hH
  have HE : Hid (ibuf = #[]) := he
  have HS : Hid (w.heap[bs]? = some (.cells (sBlk ci ch bgV 0 nx) 53)) := hS
  have HI : Hid (InAt w ci icap ibuf) := hI
  have HH : Hid (w.heap[ch]? = some (.chan hcap (Array.replicate hn (.agg #[])) false s r false)) := hH
  clear hS hI hH he
  go_enter_defers Yba.func7, Yba.ntmps7
  go_upto_region 1 with fail
  go_cut [16] from 6 to 16 (fun v wx => v = .bool false ∧ TB w w.heap.size #[.int .i64 0, .nilIface] bs ci ch 0 nx icap ibuf hcap (hn + 1) wx)
  case first =>
    refine wp_strict ?_
    go_region_with (go_at_call 8; refine (deliver_bg ch _ (s := s) (r := r) (cap := hcap) (buf := Array.replicate hn (.agg #[])) ?_ (by simpa using hroom)).mono ?_; (· show (w.alloc _).heap[ch]? = _; rw [Below.heap_alloc _ _ _ hlh]; exact HH.out); rintro e w' ⟨rfl, hH', hk⟩)
    all_goals
      go_wp2_with fail
      go_meet
      case rel =>
        exact ⟨rfl, tb_start HS.out HI.out HH.out hH' hk.undrew⟩
  case rest =>
    obtain ⟨rfl, hts⟩ := hcut
    have m6 := cell_of (o := 6) hts.hS (v := .int .i32 0) rfl
    have z6 := frozen_of (o := 6) hts.hS
    have HT : Hid (TB w w.heap.size #[.int .i64 0, .nilIface] bs ci ch 0 nx icap ibuf hcap (hn + 1) wc) := hts
    clear hts
    go_wp2_with fail
    refine (lock_free Yba.muLib ⟨bs, 6, none⟩ _ m6 z6).mono ?_
    rintro e w1 ⟨rfl, hw1⟩
    have hts1 : TB w w.heap.size #[.int .i64 0, .nilIface] bs ci ch 1 nx icap ibuf hcap (hn + 1) w1 := by
      rw [hw1]; exact HT.out.setS 6 _ rfl
    clear hw1 m6 z6
    have q0 := cell_of (o := 0) hts1.hS (v := .chan (some ci)) rfl
    have q4 := cell_of (o := 4) hts1.hS (v := bgV) rfl
    have f0 := frozen_of (o := 0) hts1.hR
    have f1 := frozen_of (o := 1) hts1.hR
    have HT1 : Hid (TB w w.heap.size #[.int .i64 0, .nilIface] bs ci ch 1 nx icap ibuf hcap (hn + 1) w1) := hts1
    clear hts1
    go_upto_region 5 with fail
    obtain ⟨si, ri, hI1⟩ := HT1.out.hI
    have HI1 : Hid (w1.heap[ci]? = some (.chan icap ibuf true si ri false)) := hI1
    clear hI1
    go_cut [4, 5] from 25 to 37 (fun a b wx => a = .bool false ∧ b = .nilIface ∧ TB w w.heap.size #[.int .i64 0, .nilIface] bs ci ch 1 nx icap ibuf hcap (hn + 1) wx)
    case first =>
      refine wp_strict ?_
      go_region_with (go_at_call 11; refine (receive_shut_bg ci _ (cap := icap) (s := si) (r := ri) ?_).mono ?_; (· rw [← HE.out]; exact HI1.out); rintro e w' ⟨rfl, hI', hk⟩; have ht2 := HT1.out.turnI hk.undrew (ibuf' := ibuf) ⟨_, _, by rw [HE.out]; exact hI'⟩; have g0 := cell_of (o := 0) ht2.hR (v := .int .i64 0) rfl; have g1 := cell_of (o := 1) ht2.hR (v := .nilIface) rfl; have f0 := frozen_of (o := 0) ht2.hR; have f1 := frozen_of (o := 1) ht2.hR; have HT2 := hide ht2; clear ht2 hI' hk)
      all_goals
        go_wp2_with fail
        go_meet
        case rel =>
          have ht := (HT2.out.setR (Nat.le_refl _) 0 (.int .i64 0)).setR (Nat.le_refl _) 1 .nilIface
          exact ⟨rfl, rfl, ht⟩
    case rest =>
      obtain ⟨rfl, rfl, ht3⟩ := hcut
      have q3 := cell_of (o := 3) ht3.hS (v := .chan (some ch)) rfl
      have HT3 := hide ht3
      clear ht3
      go_upto_region 7 with fail
      refine wp_region_comm_k [_, _, _, _] _ [] rfl (fun K hK => ?_)
      simp only [List.cons_append, List.nil_append] at hK ⊢
      go_wp2
      obtain ⟨sh, rh, hH3⟩ := HT3.out.hH
      refine ⟨_, _, commTo_recv (c := ch) (z := .agg #[]) (cap := hcap) (buf := Array.replicate (hn + 1) (.agg #[])) (closed := false) (s := sh) (r := rh) (tm := false) (w₁ := wc) (by simp [go_sem, execOp, rcase, Act.eval]) hH3 (by simp), ?_⟩
      have ht4 := HT3.out.popH hH3
      have HT4 := hide ht4
      clear ht4 hH3
      obtain ⟨W, hW⟩ : ∃ W, W = wc.setChan ch hcap ((Array.replicate (hn + 1) (Value.agg #[])).extract 1 (Array.replicate (hn + 1) (Value.agg #[])).size) false sh (rh + 1) false := ⟨_, rfl⟩
      rw [← hW] at HT4 ⊢
      clear hW
      simp only [Act.put, List.setIfInBounds_toArray, List.set_cons_succ, List.set_cons_zero]
      have g0 := cell_of (o := 0) HT4.out.hR (v := .int .i64 0) rfl
      have g1 := cell_of (o := 1) HT4.out.hR (v := .nilIface) rfl
      have f0 := frozen_of (o := 0) HT4.out.hR
      have f1 := frozen_of (o := 1) HT4.out.hR
      go_upto_region 8 with fail
      go_cut [2, 4] from 49 to 49 (fun a b wx => a = .int .i64 0 ∧ b = .bool false ∧ TB w w.heap.size #[.int .i64 0, .nilIface] bs ci ch 1 nx icap ibuf hcap hn wx)
      case first =>
        refine wp_strict ?_
        go_region
        all_goals
          go_wp2_with fail
          go_meet
          case rel =>
            exact ⟨rfl, rfl, ((HT4.out.setR (Nat.le_refl _) 0 (.int .i64 0)).setR (Nat.le_refl _) 1 .nilIface).drew⟩
      case rest =>
        obtain ⟨rfl, rfl, ht5⟩ := hcut
        have m6 := cell_of (o := 6) ht5.hS (v := .int .i32 1) rfl
        have z6 := frozen_of (o := 6) ht5.hS
        have ht6 := ht5.setS 6 (.int .i32 0) (st' := 0) (nx' := nx) rfl
        have k0 := cell_of (o := 0) ht6.hR (v := .int .i64 0) rfl
        have k1 := cell_of (o := 1) ht6.hR (v := .nilIface) rfl
        have HT6 := hide ht6
        clear ht6 ht5
        go_wp2_with fail
        refine leaves_cons (f := 10) (args := #[.pointer (some ⟨bs, 6, none⟩)]) (by simp) (by simp [go_sem]) ?_
        refine (unlock_deferred Yba.muLib ⟨bs, 6, none⟩ .returning _ m6 z6).mono ?_
        rintro e u' w'' ⟨rfl, rfl, rfl⟩
        exact ⟨.tuple #[.int .i64 0, .agg #[.int .i64 0, .nilIface], .bool false], by simp [results, Yba.results7, go_sem, k0, k1], rfl, HT6.out⟩
end Go.Proofs.Ybulkably
