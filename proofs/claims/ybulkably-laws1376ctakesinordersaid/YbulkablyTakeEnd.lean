import Derived.Test.YbulkablyTakeVal
namespace Go.Proofs.Ybulkably
open Go.Conc Go.RowKit Go.MuLone

theorem Kept.inAt {S : List Nat} {w w' : World} {ci cap : Nat} {buf : Array Value} (h : Kept S w w') (hI : InAt w ci cap buf) (hn : ci ∉ S) : InAt w' ci cap buf := by
  obtain ⟨s, r, e⟩ := hI
  exact ⟨s, r, by rw [h.block _ (lt_of_heap e) hn]; exact e⟩

theorem rep_pop (n : Nat) : (Array.replicate (n + 1) (Value.agg #[])).extract 1 (Array.replicate (n + 1) (Value.agg #[])).size = Array.replicate n (.agg #[]) := by
  simp
/-- One is taken out of 'held'. -/
theorem TS.popH {w0 w : World} {R bs ci ch bc icap hcap hn : Nat} {rv ibuf : Array Value} {st nx k c : Int} {s r : Nat} (h : TS w0 R rv bs ci ch bc st nx k c icap ibuf hcap (hn + 1) w) (hH : w.heap[ch]? = some (.chan hcap (Array.replicate (hn + 1) (.agg #[])) false s r false)) :
    TS w0 R rv bs ci ch bc st nx k c icap ibuf hcap hn (w.setChan ch hcap ((Array.replicate (hn + 1) (Value.agg #[])).extract 1 (Array.replicate (hn + 1) (Value.agg #[])).size) false s (r + 1) false) := by
  obtain ⟨a1, a2, a3, a4, a5, a6, a7, a8, a9, a10⟩ := h.apart
  have key : ∀ j, j ≠ ch → (w.setChan ch hcap ((Array.replicate (hn + 1) (Value.agg #[])).extract 1 (Array.replicate (hn + 1) (Value.agg #[])).size) false s (r + 1) false).heap[j]? = w.heap[j]? := by
    intro j hj
    simp only [World.setChan]
    rw [Array.getElem?_setIfInBounds_ne hj.symm]
  refine ⟨(key _ a10).trans h.hR, (key _ a3).trans h.hS, (key _ a5).trans h.hC, ?_, ⟨s, r + 1, ?_⟩, h.hk.setChan (by simp) _ _ _ _ _ _⟩
  · obtain ⟨si, ri, e⟩ := h.hI; exact ⟨si, ri, (key _ a6).trans e⟩
  · rw [heap_setChan _ _ _ _ _ _ _ _ (lt_of_heap hH), rep_pop]

set_option maxRecDepth 100000 in
set_option maxHeartbeats 1600000 in
theorem take_stop (bs ci ch bc icap hcap hn : Nat) (ibuf : Array Value) (k c nx : Int) (w : World)
    (hS : w.heap[bs]? = some (.cells (sBlk ci ch (ctxV bc) 0 nx) 53)) (hC : w.heap[bc]? = some (.cells #[.int .i64 k, .int .i64 c] 59)) (hI : InAt w ci icap ibuf) (hH : HeldAt w ch hcap hn)
    (hroom : hn < hcap)
    (hc0 : 0 ≤ c) (hc1 : c ≤ 90000) (hle : c + 1 ≤ k) (hlt : k < c + 2) :
    Calls Yba.prog 7 #[.pointer (some ⟨bs, 0, none⟩)] w fun e w' => e = .returned (.tuple #[.int .i64 0, .agg #[.int .i64 0, .nilIface], .bool false]) ∧
      TS w w.heap.size #[.int .i64 0, .nilIface] bs ci ch bc 0 nx k (c + 2) icap ibuf hcap hn w' := by
  have s0 := cell_of (o := 0) hS (v := .chan (some ci)) rfl
  have s3 := cell_of (o := 3) hS (v := .chan (some ch)) rfl
  have s4 := cell_of (o := 4) hS (v := ctxV bc) rfl
  have hl := lt_of_heap hC
  have hls := lt_of_heap hS
  obtain ⟨s, r, hH⟩ := hH
  have hlh := lt_of_heap hH
  have HS : Hid (w.heap[bs]? = some (.cells (sBlk ci ch (ctxV bc) 0 nx) 53)) := hS
  have HC : Hid (w.heap[bc]? = some (.cells #[.int .i64 k, .int .i64 c] 59)) := hC
  have HI : Hid (InAt w ci icap ibuf) := hI
  have HH : Hid (w.heap[ch]? = some (.chan hcap (Array.replicate hn (.agg #[])) false s r false)) := hH
  clear hC hS hI hH
  go_enter_defers Yba.func7, Yba.ntmps7
  go_upto_region 1 with fail
  go_cut [16] from 6 to 16 (fun v wx => v = .bool false ∧ TS w w.heap.size #[.int .i64 0, .nilIface] bs ci ch bc 0 nx k (c + 1) icap ibuf hcap (hn + 1) wx)
  case first =>
    refine wp_strict ?_
    go_region_with (go_at_call 8; refine (deliver_ok bc ch k c _ (s := s) (r := r) (cap := hcap) (buf := Array.replicate hn (.agg #[])) ?_ ?_ (by simpa using hroom) hc0 (by omega) (by omega)).mono ?_; (· show (w.alloc _).heap[bc]? = _; rw [Below.heap_alloc _ _ _ hl]; exact HC.out); (· show (w.alloc _).heap[ch]? = _; rw [Below.heap_alloc _ _ _ hlh]; exact HH.out); rintro e w' ⟨rfl, hC', hH', hk⟩)
    all_goals
      go_wp2_with fail
      go_meet
      case rel =>
        exact ⟨rfl, ts_start HS.out HC.out HI.out HH.out hC' hH' hk.undrew⟩
  case rest =>
    obtain ⟨rfl, hts⟩ := hcut
    have m6 := cell_of (o := 6) hts.hS (v := .int .i32 0) rfl
    have z6 := frozen_of (o := 6) hts.hS
    have HT : Hid (TS w w.heap.size #[.int .i64 0, .nilIface] bs ci ch bc 0 nx k (c + 1) icap ibuf hcap (hn + 1) wc) := hts
    clear hts
    go_wp2_with fail
    refine (lock_free Yba.muLib ⟨bs, 6, none⟩ _ m6 z6).mono ?_
    rintro e w1 ⟨rfl, hw1⟩
    have hts1 : TS w w.heap.size #[.int .i64 0, .nilIface] bs ci ch bc 1 nx k (c + 1) icap ibuf hcap (hn + 1) w1 := by
      rw [hw1]; exact HT.out.setS 6 _ rfl
    clear hw1 m6 z6
    have q0 := cell_of (o := 0) hts1.hS (v := .chan (some ci)) rfl
    have q4 := cell_of (o := 4) hts1.hS (v := ctxV bc) rfl
    have f0 := frozen_of (o := 0) hts1.hR
    have f1 := frozen_of (o := 1) hts1.hR
    have HT1 : Hid (TS w w.heap.size #[.int .i64 0, .nilIface] bs ci ch bc 1 nx k (c + 1) icap ibuf hcap (hn + 1) w1) := hts1
    clear hts1
    go_upto_region 5 with fail
    obtain ⟨si, ri, hI1⟩ := HT1.out.hI
    have HI1 : Hid (w1.heap[ci]? = some (.chan icap ibuf true si ri false)) := hI1
    clear hI1
    go_cut [4, 5] from 25 to 37 (fun a b wx => a = .bool false ∧ (∃ p, b = .iface 61 (.pointer p)) ∧ TS w w.heap.size #[.int .i64 0, .nilIface] bs ci ch bc 1 nx k (c + 2) icap ibuf hcap (hn + 1) wx)
    case first =>
      refine wp_strict ?_
      go_region_with (go_at_call 11; refine (receive_no bc ci k (c + 1) _ ?_ (by omega) (by omega) (by omega)).mono ?_; (· exact HT1.out.hC); rintro e w' ⟨p, rfl, hC', hk⟩; have ht2 := HT1.out.turnI (hk.undrew.mono (by simp)) hC' (hk.undrew.inAt HT1.out.hI (by simpa using HT1.out.apart.2.2.2.1.symm)); have g0 := cell_of (o := 0) ht2.hR (v := .int .i64 0) rfl; have g1 := cell_of (o := 1) ht2.hR (v := .nilIface) rfl; have f0 := frozen_of (o := 0) ht2.hR; have f1 := frozen_of (o := 1) ht2.hR; have HT2 := hide ht2; clear ht2 hC' hk)
      all_goals
        go_wp2_with fail
        go_meet
        case rel =>
          have ht := (HT2.out.setR (Nat.le_refl _) 0 (.int .i64 0)).setR (Nat.le_refl _) 1 .nilIface
          have e2 : c + 1 + 1 = c + 2 := by omega
          rw [e2] at ht
          exact ⟨rfl, ⟨_, rfl⟩, ht⟩
    case rest =>
      obtain ⟨rfl, ⟨p, rfl⟩, ht3⟩ := hcut
      have q3 := cell_of (o := 3) ht3.hS (v := .chan (some ch)) rfl
      have HT3 := hide ht3
      clear ht3
      go_upto_region 7 with fail
      refine wp_region_comm_k [_, _, _, _] _ [] rfl (fun K hK => ?_)
      simp only [List.cons_append, List.nil_append] at hK ⊢
      go_wp2
      obtain ⟨sh, rh, hH3⟩ := HT3.out.hH
      refine ⟨_, _, commTo_recv (c := ch) (z := .agg #[]) (cap := hcap) (buf := Array.replicate (hn + 1) (.agg #[])) (closed := false) (s := sh) (r := rh) (tm := false) (w₁ := wc) (by simp [go_sem, execOp, rcase, Act.eval]) hH3 (by simp), ?_⟩
      have ht4 := HT3.out.popH hH3
      have HT4 := hide ht4
      clear ht4 hH3
      obtain ⟨W, hW⟩ : ∃ W, W = wc.setChan ch hcap ((Array.replicate (hn + 1) (Value.agg #[])).extract 1 (Array.replicate (hn + 1) (Value.agg #[])).size) false sh (rh + 1) false := ⟨_, rfl⟩
      rw [← hW] at HT4 ⊢
      clear hW
      simp only [Act.put, List.setIfInBounds_toArray, List.set_cons_succ, List.set_cons_zero]
      have g0 := cell_of (o := 0) HT4.out.hR (v := .int .i64 0) rfl
      have g1 := cell_of (o := 1) HT4.out.hR (v := .nilIface) rfl
      have f0 := frozen_of (o := 0) HT4.out.hR
      have f1 := frozen_of (o := 1) HT4.out.hR
      go_upto_region 8 with fail
      go_cut [2, 4] from 49 to 49 (fun a b wx => a = .int .i64 0 ∧ b = .bool false ∧ TS w w.heap.size #[.int .i64 0, .nilIface] bs ci ch bc 1 nx k (c + 2) icap ibuf hcap hn wx)
      case first =>
        refine wp_strict ?_
        go_region
        all_goals
          go_wp2_with fail
          go_meet
          case rel =>
            exact ⟨rfl, rfl, ((HT4.out.setR (Nat.le_refl _) 0 (.int .i64 0)).setR (Nat.le_refl _) 1 .nilIface).drew⟩
      case rest =>
        obtain ⟨rfl, rfl, ht5⟩ := hcut
        have m6 := cell_of (o := 6) ht5.hS (v := .int .i32 1) rfl
        have z6 := frozen_of (o := 6) ht5.hS
        have ht6 := ht5.setS 6 (.int .i32 0) (st' := 0) (nx' := nx) rfl
        have k0 := cell_of (o := 0) ht6.hR (v := .int .i64 0) rfl
        have k1 := cell_of (o := 1) ht6.hR (v := .nilIface) rfl
        have HT6 := hide ht6
        clear ht6 ht5
        go_wp2_with fail
        refine leaves_cons (f := 10) (args := #[.pointer (some ⟨bs, 6, none⟩)]) (by simp) (by simp [go_sem]) ?_
        refine (unlock_deferred Yba.muLib ⟨bs, 6, none⟩ .returning _ m6 z6).mono ?_
        rintro e u' w'' ⟨rfl, rfl, rfl⟩
        exact ⟨.tuple #[.int .i64 0, .agg #[.int .i64 0, .nilIface], .bool false], by simp [results, Yba.results7, go_sem, k0, k1], rfl, HT6.out⟩

set_option maxRecDepth 100000 in
set_option maxHeartbeats 1600000 in
theorem take_shut (bs ci ch bc icap hcap hn : Nat) (ibuf : Array Value) (k c nx : Int) (w : World)
    (hS : w.heap[bs]? = some (.cells (sBlk ci ch (ctxV bc) 0 nx) 53)) (hC : w.heap[bc]? = some (.cells #[.int .i64 k, .int .i64 c] 59)) (hI : InAt w ci icap ibuf) (hH : HeldAt w ch hcap hn)
    (hroom : hn < hcap) (he : ibuf = #[])
    (hc0 : 0 ≤ c) (hc1 : c ≤ 90000) (hle : c + 2 ≤ k) :
    Calls Yba.prog 7 #[.pointer (some ⟨bs, 0, none⟩)] w fun e w' => e = .returned (.tuple #[.int .i64 0, .agg #[.int .i64 0, .nilIface], .bool false]) ∧
      TS w w.heap.size #[.int .i64 0, .nilIface] bs ci ch bc 0 nx k (c + 2) icap ibuf hcap hn w' := by
  have s0 := cell_of (o := 0) hS (v := .chan (some ci)) rfl
  have s3 := cell_of (o := 3) hS (v := .chan (some ch)) rfl
  have s4 := cell_of (o := 4) hS (v := ctxV bc) rfl
  have hl := lt_of_heap hC
  have hls := lt_of_heap hS
  obtain ⟨s, r, hH⟩ := hH
  have hlh := lt_of_heap hH
  have HE : Hid (ibuf = #[]) := he
  have HS : Hid (w.heap[bs]? = some (.cells (sBlk ci ch (ctxV bc) 0 nx) 53)) := hS
  have HC : Hid (w.heap[bc]? = some (.cells #[.int .i64 k, .int .i64 c] 59)) := hC
  have HI : Hid (InAt w ci icap ibuf) := hI
  have HH : Hid (w.heap[ch]? = some (.chan hcap (Array.replicate hn (.agg #[])) false s r false)) := hH
  clear hC hS hI hH he
  go_enter_defers Yba.func7, Yba.ntmps7
  go_upto_region 1 with fail
  go_cut [16] from 6 to 16 (fun v wx => v = .bool false ∧ TS w w.heap.size #[.int .i64 0, .nilIface] bs ci ch bc 0 nx k (c + 1) icap ibuf hcap (hn + 1) wx)
  case first =>
    refine wp_strict ?_
    go_region_with (go_at_call 8; refine (deliver_ok bc ch k c _ (s := s) (r := r) (cap := hcap) (buf := Array.replicate hn (.agg #[])) ?_ ?_ (by simpa using hroom) hc0 (by omega) (by omega)).mono ?_; (· show (w.alloc _).heap[bc]? = _; rw [Below.heap_alloc _ _ _ hl]; exact HC.out); (· show (w.alloc _).heap[ch]? = _; rw [Below.heap_alloc _ _ _ hlh]; exact HH.out); rintro e w' ⟨rfl, hC', hH', hk⟩)
    all_goals
      go_wp2_with fail
      go_meet
      case rel =>
        exact ⟨rfl, ts_start HS.out HC.out HI.out HH.out hC' hH' hk.undrew⟩
  case rest =>
    obtain ⟨rfl, hts⟩ := hcut
    have m6 := cell_of (o := 6) hts.hS (v := .int .i32 0) rfl
    have z6 := frozen_of (o := 6) hts.hS
    have HT : Hid (TS w w.heap.size #[.int .i64 0, .nilIface] bs ci ch bc 0 nx k (c + 1) icap ibuf hcap (hn + 1) wc) := hts
    clear hts
    go_wp2_with fail
    refine (lock_free Yba.muLib ⟨bs, 6, none⟩ _ m6 z6).mono ?_
    rintro e w1 ⟨rfl, hw1⟩
    have hts1 : TS w w.heap.size #[.int .i64 0, .nilIface] bs ci ch bc 1 nx k (c + 1) icap ibuf hcap (hn + 1) w1 := by
      rw [hw1]; exact HT.out.setS 6 _ rfl
    clear hw1 m6 z6
    have q0 := cell_of (o := 0) hts1.hS (v := .chan (some ci)) rfl
    have q4 := cell_of (o := 4) hts1.hS (v := ctxV bc) rfl
    have f0 := frozen_of (o := 0) hts1.hR
    have f1 := frozen_of (o := 1) hts1.hR
    have HT1 : Hid (TS w w.heap.size #[.int .i64 0, .nilIface] bs ci ch bc 1 nx k (c + 1) icap ibuf hcap (hn + 1) w1) := hts1
    clear hts1
    go_upto_region 5 with fail
    obtain ⟨si, ri, hI1⟩ := HT1.out.hI
    have HI1 : Hid (w1.heap[ci]? = some (.chan icap ibuf true si ri false)) := hI1
    clear hI1
    go_cut [4, 5] from 25 to 37 (fun a b wx => a = .bool false ∧ b = .nilIface ∧ TS w w.heap.size #[.int .i64 0, .nilIface] bs ci ch bc 1 nx k (c + 2) icap ibuf hcap (hn + 1) wx)
    case first =>
      refine wp_strict ?_
      go_region_with (go_at_call 11; refine (receive_shut bc ci k (c + 1) _ (cap := icap) (s := si) (r := ri) ?_ ?_ (by omega) (by omega) (by omega)).mono ?_; (· exact HT1.out.hC); (· rw [← HE.out]; exact HI1.out); rintro e w' ⟨rfl, hC', hI', hk⟩; have ht2 := HT1.out.turnI hk.undrew hC' (ibuf' := ibuf) ⟨_, _, by rw [HE.out]; exact hI'⟩; have g0 := cell_of (o := 0) ht2.hR (v := .int .i64 0) rfl; have g1 := cell_of (o := 1) ht2.hR (v := .nilIface) rfl; have f0 := frozen_of (o := 0) ht2.hR; have f1 := frozen_of (o := 1) ht2.hR; have HT2 := hide ht2; clear ht2 hC' hI' hk)
      all_goals
        go_wp2_with fail
        go_meet
        case rel =>
          have ht := (HT2.out.setR (Nat.le_refl _) 0 (.int .i64 0)).setR (Nat.le_refl _) 1 .nilIface
          have e2 : c + 1 + 1 = c + 2 := by omega
          rw [e2] at ht
          exact ⟨rfl, rfl, ht⟩
    case rest =>
      obtain ⟨rfl, rfl, ht3⟩ := hcut
      have q3 := cell_of (o := 3) ht3.hS (v := .chan (some ch)) rfl
      have HT3 := hide ht3
      clear ht3
      go_upto_region 7 with fail
      refine wp_region_comm_k [_, _, _, _] _ [] rfl (fun K hK => ?_)
      simp only [List.cons_append, List.nil_append] at hK ⊢
      go_wp2
      obtain ⟨sh, rh, hH3⟩ := HT3.out.hH
      refine ⟨_, _, commTo_recv (c := ch) (z := .agg #[]) (cap := hcap) (buf := Array.replicate (hn + 1) (.agg #[])) (closed := false) (s := sh) (r := rh) (tm := false) (w₁ := wc) (by simp [go_sem, execOp, rcase, Act.eval]) hH3 (by simp), ?_⟩
      have ht4 := HT3.out.popH hH3
      have HT4 := hide ht4
      clear ht4 hH3
      obtain ⟨W, hW⟩ : ∃ W, W = wc.setChan ch hcap ((Array.replicate (hn + 1) (Value.agg #[])).extract 1 (Array.replicate (hn + 1) (Value.agg #[])).size) false sh (rh + 1) false := ⟨_, rfl⟩
      rw [← hW] at HT4 ⊢
      clear hW
      simp only [Act.put, List.setIfInBounds_toArray, List.set_cons_succ, List.set_cons_zero]
      have g0 := cell_of (o := 0) HT4.out.hR (v := .int .i64 0) rfl
      have g1 := cell_of (o := 1) HT4.out.hR (v := .nilIface) rfl
      have f0 := frozen_of (o := 0) HT4.out.hR
      have f1 := frozen_of (o := 1) HT4.out.hR
      go_upto_region 8 with fail
      go_cut [2, 4] from 49 to 49 (fun a b wx => a = .int .i64 0 ∧ b = .bool false ∧ TS w w.heap.size #[.int .i64 0, .nilIface] bs ci ch bc 1 nx k (c + 2) icap ibuf hcap hn wx)
      case first =>
        refine wp_strict ?_
        go_region
        all_goals
          go_wp2_with fail
          go_meet
          case rel =>
            exact ⟨rfl, rfl, ((HT4.out.setR (Nat.le_refl _) 0 (.int .i64 0)).setR (Nat.le_refl _) 1 .nilIface).drew⟩
      case rest =>
        obtain ⟨rfl, rfl, ht5⟩ := hcut
        have m6 := cell_of (o := 6) ht5.hS (v := .int .i32 1) rfl
        have z6 := frozen_of (o := 6) ht5.hS
        have ht6 := ht5.setS 6 (.int .i32 0) (st' := 0) (nx' := nx) rfl
        have k0 := cell_of (o := 0) ht6.hR (v := .int .i64 0) rfl
        have k1 := cell_of (o := 1) ht6.hR (v := .nilIface) rfl
        have HT6 := hide ht6
        clear ht6 ht5
        go_wp2_with fail
        refine leaves_cons (f := 10) (args := #[.pointer (some ⟨bs, 6, none⟩)]) (by simp) (by simp [go_sem]) ?_
        refine (unlock_deferred Yba.muLib ⟨bs, 6, none⟩ .returning _ m6 z6).mono ?_
        rintro e u' w'' ⟨rfl, rfl, rfl⟩
        exact ⟨.tuple #[.int .i64 0, .agg #[.int .i64 0, .nilIface], .bool false], by simp [results, Yba.results7, go_sem, k0, k1], rfl, HT6.out⟩
end Go.Proofs.Ybulkably
