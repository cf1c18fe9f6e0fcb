import Derived.Test.YbulkablyReceive
import Derived.Test.YbulkablyLocks
import Derived.Conc.MuLone
import Derived.Deep.CutRange
import Derived.Deep.RegionWith
namespace Go.Proofs.Ybulkably
open Go.Conc Go.RowKit Go.MuLone

/-- The struct's cells. -/
def sBlk (ci ch : Nat) (iv : Value) (st nx : Int) : Array Value :=
  #[.chan (some ci), .nilFunc, .pointer none, .chan (some ch), iv, .nilFunc, .int .i32 st, .int .u32 0, .int .i64 nx, .int .i32 0, .int .u32 0, .int .i64 0, .int .i64 0, .int .i64 0, .slice none 0 0, .slice none 0 0, .bool false]
def InAt (w : World) (ci cap : Nat) (buf : Array Value) : Prop := ∃ s r, w.heap[ci]? = some (.chan cap buf true s r false)
def HeldAt (w : World) (ch cap n : Nat) : Prop := ∃ s r, w.heap[ch]? = some (.chan cap (Array.replicate n (.agg #[])) false s r false)
/-- The law's own context, as the interface value that the struct holds. -/
abbrev ctxV (bc : Nat) : Value := .iface 57 (.pointer (some ⟨bc, 0, none⟩))

theorem Kept.undrew {S : List Nat} {w w' : World} (h : Kept S w.drew w') : Kept S w w' := ⟨h.os, h.tape, h.output, h.size, h.block⟩
theorem Kept.undrewN {S : List Nat} {w w' : World} {n : Nat} (h : Kept S (w.drewN n) w') : Kept S w w' := ⟨h.os, h.tape, h.output, h.size, h.block⟩
/-- A statement that only goes on: what follows a panic is not asked after. -/
theorem wp_strict {P : Program} {s : Code} {K : Act → World → Prop} {Q : Exit → Act → World → Prop} {a : Act} {w : World} (h : s.wp P (Exit.then K (fun _ _ _ => False)) a w) : s.wp P (Exit.then K Q) a w :=
  wp_mono h fun e _ _ q => by cases e <;> first | exact q | exact q.elim

set_option maxRecDepth 100000 in
set_option maxHeartbeats 800000 in
theorem take_no (bs ci ch bc : Nat) (k c nx : Int) (w : World) (hS : w.heap[bs]? = some (.cells (sBlk ci ch (ctxV bc) 0 nx) 53)) (hC : w.heap[bc]? = some (.cells #[.int .i64 k, .int .i64 c] 59))
    (hc0 : 0 ≤ c) (hc1 : c ≤ 100000) (hle : k < c + 1) :
    Calls Yba.prog 7 #[.pointer (some ⟨bs, 0, none⟩)] w fun e w' => e = .returned (.tuple #[.int .i64 0, .agg #[.int .i64 0, .nilIface], .bool false]) ∧ w'.heap[bc]? = some (.cells #[.int .i64 k, .int .i64 (c + 1)] 59) ∧ Kept [bc] w w' := by
  have s0 := cell_of (o := 0) hS (v := .chan (some ci)) rfl
  have s3 := cell_of (o := 3) hS (v := .chan (some ch)) rfl
  have s4 := cell_of (o := 4) hS (v := ctxV bc) rfl
  have hl := lt_of_heap hC
  have hls := lt_of_heap hS
  have HS : Hid (w.heap[bs]? = some (.cells (sBlk ci ch (ctxV bc) 0 nx) 53)) := hS
  have HC : Hid (w.heap[bc]? = some (.cells #[.int .i64 k, .int .i64 c] 59)) := hC
  clear hC hS
  go_enter_defers Yba.func7, Yba.ntmps7
  go_upto_region 1 with fail
  go_cut [16] from 6 to 16 (fun v wx => v = .bool true ∧ wx.heap[w.heap.size]? = some (.cells #[.int .i64 0, .nilIface] 29) ∧ wx.heap[bc]? = some (.cells #[.int .i64 k, .int .i64 (c + 1)] 59) ∧ Kept [bc] (w.alloc (.cells #[.int .i64 0, .nilIface] 29)) wx)
  case first =>
    refine wp_strict ?_
    go_region_with (go_at_call 8; refine (deliver_no bc ch k c _ ?_ hc0 hc1 hle).mono ?_; (· show (w.alloc _).heap[bc]? = _; rw [Below.heap_alloc _ _ _ hl]; exact HC.out); rintro e w' ⟨p, rfl, hC', hk⟩)
    all_goals
      go_wp2_with fail
      go_meet
      case rel =>
        exact ⟨rfl, by rw [hk.undrew.block _ (by simp) (by simp; omega)]; exact heap_alloc_new w _, hC', hk.undrew⟩
  case rest =>
    obtain ⟨rfl, hR, hC1, hk1⟩ := hcut
    have g0 := cell_of (o := 0) hR (v := .int .i64 0) rfl
    have g1 := cell_of (o := 1) hR (v := .nilIface) rfl
    have f0 := frozen_of (o := 0) hR
    have f1 := frozen_of (o := 1) hR
    have HR : Hid (wc.heap[w.heap.size]? = some (.cells #[.int .i64 0, .nilIface] 29)) := hR
    have HC1 : Hid (wc.heap[bc]? = some (.cells #[.int .i64 k, .int .i64 (c + 1)] 59)) := hC1
    have HK1 : Hid (Kept [bc] (w.alloc (.cells #[.int .i64 0, .nilIface] 29)) wc) := hk1
    clear hR hC1 hk1
    go_upto_region 2 with fail
    go_cut [2, 4] from 17 to 17 (fun a b wx => a = .int .i64 0 ∧ b = .bool false ∧ wx.heap[w.heap.size]? = some (.cells #[.int .i64 0, .nilIface] 29) ∧ wx.heap[bc]? = some (.cells #[.int .i64 k, .int .i64 (c + 1)] 59) ∧ Kept [bc] w wx)
    case first =>
      refine wp_strict ?_
      go_region
      all_goals
        go_wp2_with fail
        go_meet
        case rel =>
          refine ⟨rfl, rfl, ?_, ?_, ?_⟩
          · exact heap_set _ (heap_set _ HR.out)
          · rw [heap_drew, Below.heap_setCell _ _ _ _ (by simp; omega), Below.heap_setCell _ _ _ _ (by simp; omega)]; exact HC1.out
          · exact ((((((Kept.refl _ _).alloc _).trans HK1.out).setCell (.inr (by simp)) _).setCell (.inr (by simp)) _).drew)
    case rest =>
      obtain ⟨rfl, rfl, hR, hC2, hk2⟩ := hcut
      have g0' := cell_of (o := 0) hR (v := .int .i64 0) rfl
      have g1' := cell_of (o := 1) hR (v := .nilIface) rfl
      go_wp2_with fail
      exact ⟨.tuple #[.int .i64 0, .agg #[.int .i64 0, .nilIface], .bool false], by simp [results, Yba.results7, go_sem, g0', g1'], rfl, hC2, hk2⟩
end Go.Proofs.Ybulkably
