/-
  The queue's spin lock, taken and let go; the guard read.
-/
import Derived.Test.YbulkaboqRows
import Derived.Test.YbulkaboqComm
import Derived.WalkKit
import Derived.WalkLawsBesides
import Derived.WideLaws
import Derived.Laws.EntriesVeiled
import Derived.BigQuiet
import Derived.Deep.QuietTactic
import Derived.Deep.RegionWith
import Derived.Deep.Cut
import Derived.Deep.CutRange
import Derived.Deep.LoopGhost
namespace Go.Proofs.Ybulkaboq
open Go.Conc Go.RowKit

theorem b32_t (w : World) : Calls Yba.prog 16 #[.bool true] w fun e w' => e = .returned (.int .u32 1) ∧ w' = w := by
  go_enter Yba.func16, Yba.ntmps16
  go_wp2
  go_ret
  exact ⟨rfl, rfl⟩
theorem b32_f (w : World) : Calls Yba.prog 16 #[.bool false] w fun e w' => e = .returned (.int .u32 0) ∧ w' = w := by
  go_enter Yba.func16, Yba.ntmps16
  go_wp2
  go_ret
  exact ⟨rfl, rfl⟩

set_option maxRecDepth 100000 in
set_option maxHeartbeats 800000 in
theorem cas_free (a : Addr) (w : World) (hc : w.cell? a = some (.int .u32 0)) (hz : w.frozen? a = false) :
    Calls Yba.prog 12 #[.pointer (some a), .bool false, .bool true] w fun e w' => e = .returned (.bool true) ∧ w' = (w.setCell a (.int .u32 1)).drew := by
  have hcas := run_call_cas_hit (P := Yba.prog) Yba.func15 (by kernel_rfl) (by kernel_rfl) (by kernel_rfl) .u32 (by kernel_rfl) (w := w.drew) (y := 1) (a := a) (x := 0) hc hz
  go_enter Yba.func12, Yba.ntmps12
  go_wp2
  go_region_calls
  all_goals
    go_wp2
    go_ret
    exact ⟨rfl, rfl⟩

set_option maxRecDepth 100000 in
set_option maxHeartbeats 800000 in
theorem store_any (a : Addr) (u : Value) (w : World) (hc : w.cell? a = some u) (hz : w.frozen? a = false) :
    Calls Yba.prog 14 #[.pointer (some a), .bool false] w fun e w' => e = .returned (.tuple #[]) ∧ w' = (w.setCell a (.int .u32 0)).drew := by
  have hst := run_call_store (P := Yba.prog) Yba.func17 (by kernel_rfl) (by kernel_rfl) (by kernel_rfl) (by kernel_rfl) (w := w.drew) (k := .u32) (y := 0) (a := a) hc hz
  go_enter Yba.func14, Yba.ntmps14
  go_wp2
  go_region_calls
  all_goals (go_end0; exact ⟨rfl, rfl⟩)

theorem load_any (a : Addr) (x : Int) (w : World) (hc : w.cell? a = some (.int .u32 x)) :
    Calls Yba.prog 6 #[.pointer (some a)] w fun e w' => e = .returned (.bool (x != 0)) ∧ w' = w := by
  have hl := run_call_load (P := Yba.prog) Yba.func11 (by kernel_rfl) (by kernel_rfl) (by kernel_rfl) .u32 (by kernel_rfl) hc
  go_enter Yba.func6, Yba.ntmps6
  go_wp2
  go_ret
  exact ⟨rfl, rfl⟩

theorem lock_free (b : Nat) (w : World) (hc : w.cell? ⟨b, 0, none⟩ = some (.int .u32 0)) (hz : w.frozen? ⟨b, 0, none⟩ = false) :
    Calls Yba.prog 8 #[.pointer (some ⟨b, 0, none⟩)] w fun e w' => e = .returned (.tuple #[]) ∧ w' = (w.setCell ⟨b, 0, none⟩ (.int .u32 1)).drew := by
  go_enter Yba.func8, Yba.ntmps8
  go_wp2_with fail
  refine wp_loop_rounds 1 ?_
  rw [rounds_succ]
  go_wp2_with (go_at_call 12; refine (cas_free _ _ hc hz).mono ?_; rintro e w' ⟨rfl, rfl⟩)
  go_end0
  exact ⟨rfl, rfl⟩

theorem unlock_any (b : Nat) (u : Value) (w : World) (hc : w.cell? ⟨b, 0, none⟩ = some u) (hz : w.frozen? ⟨b, 0, none⟩ = false) :
    Calls Yba.prog 9 #[.pointer (some ⟨b, 0, none⟩)] w fun e w' => e = .returned (.tuple #[]) ∧ w' = (w.setCell ⟨b, 0, none⟩ (.int .u32 0)).drew := by
  go_enter Yba.func9, Yba.ntmps9
  go_wp2_with (go_at_call 14; refine (store_any _ _ _ hc hz).mono ?_; rintro e w' ⟨rfl, rfl⟩)
  go_end0
  exact ⟨rfl, rfl⟩
end Go.Proofs.Ybulkaboq
