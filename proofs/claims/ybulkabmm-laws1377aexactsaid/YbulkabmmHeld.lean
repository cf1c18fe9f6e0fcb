import Derived.Test.YbulkabmmRows
import Derived.WalkKit
import Derived.WalkLawsBesides
namespace Go.Proofs.Ybulkabmm
open Go.RowKit

/-- An event: its Op, its Obj, NotLocked; all else zero. -/
abbrev evV (op kd n : Int) (nl : Bool) : Value := .agg #[.int .u64 0, .int .u64 0, .int .u8 op, .int .u8 kd, .int .u64 n, .string ⟨#[]⟩, .int .i64 0, .int .u8 0, .int .i64 0, .int .u64 0, .int .i64 0, .int .i64 0, .int .u64 0, .int .u64 0, .string ⟨#[]⟩, .string ⟨#[]⟩, .int .u64 0, .bool false, .bool nl, .bool false, .bool false]
abbrev hV (lk : Bool) (l r : Int) : Value := .agg #[.bool lk, .int .i64 l, .int .i64 r]

set_option maxRecDepth 100000 in
set_option maxHeartbeats 400000 in
theorem next_nl (lk : Bool) (l r op kd n i : Int) (w : World) :
    Calls Yba.prog 8 #[hV lk l r, evV op kd n true, .int .i64 i] w fun e w' => e = .returned (hV lk l r) ∧ Below w.heap.size w w' := by
  go_enter Yba.func8, Yba.ntmps8
  go_wp2
  exact bodyPost_ret (v := hV lk l r) (by simp [results, Yba.results8, go_sem]) rfl ⟨rfl, (((Below.refl _ _).alloc (Nat.le_refl _) _).alloc (by simp) _).alloc (by simp; omega) _⟩

set_option maxRecDepth 100000 in
set_option maxHeartbeats 400000 in
theorem next_lock (lk : Bool) (l r kd n i : Int) (w : World) :
    Calls Yba.prog 8 #[hV lk l r, evV 11 kd n false, .int .i64 i] w fun e w' => e = .returned (hV true i 0) ∧ Below w.heap.size w w' := by
  go_enter Yba.func8, Yba.ntmps8
  go_wp2
  exact bodyPost_ret (v := hV true i 0) (by simp [results, Yba.results8, go_sem]) rfl ⟨rfl, (((Below.refl _ _).alloc (Nat.le_refl _) _).alloc (by simp) _).alloc (by simp; omega) _⟩

set_option maxRecDepth 100000 in
set_option maxHeartbeats 400000 in
theorem next_rlock (lk : Bool) (l r kd n i : Int) (w : World) :
    Calls Yba.prog 8 #[hV lk l r, evV 13 kd n false, .int .i64 i] w fun e w' => e = .returned (hV lk l (wrap64 (r + 1))) ∧ Below w.heap.size w w' := by
  go_enter Yba.func8, Yba.ntmps8
  go_wp2
  exact bodyPost_ret (v := hV lk l (wrap64 (r + 1))) (by simp [results, Yba.results8, go_sem]) rfl ⟨rfl, (((Below.refl _ _).alloc (Nat.le_refl _) _).alloc (by simp) _).alloc (by simp; omega) _⟩

set_option maxRecDepth 100000 in
set_option maxHeartbeats 400000 in
theorem next_unlock (lk : Bool) (l r kd n i : Int) (w : World) :
    Calls Yba.prog 8 #[hV lk l r, evV 12 kd n false, .int .i64 i] w fun e w' => e = .returned (hV false l r) ∧ Below w.heap.size w w' := by
  go_enter Yba.func8, Yba.ntmps8
  go_wp2
  exact bodyPost_ret (v := hV false l r) (by simp [results, Yba.results8, go_sem]) rfl ⟨rfl, (((Below.refl _ _).alloc (Nat.le_refl _) _).alloc (by simp) _).alloc (by simp; omega) _⟩

set_option maxRecDepth 100000 in
set_option maxHeartbeats 400000 in
theorem next_runlock_neg (lk : Bool) (l r kd n i : Int) (w : World) (h : wrap64 (r - 1) < 0) :
    Calls Yba.prog 8 #[hV lk l r, evV 14 kd n false, .int .i64 i] w fun e w' => e = .returned (hV lk l 0) ∧ Below w.heap.size w w' := by
  go_enter Yba.func8, Yba.ntmps8
  go_wp2
  exact bodyPost_ret (v := hV lk l 0) (by simp [results, Yba.results8, go_sem]) rfl ⟨rfl, (((Below.refl _ _).alloc (Nat.le_refl _) _).alloc (by simp) _).alloc (by simp; omega) _⟩

set_option maxRecDepth 100000 in
set_option maxHeartbeats 400000 in
theorem next_runlock_pos (lk : Bool) (l r kd n i : Int) (w : World) (h : ¬ wrap64 (r - 1) < 0) :
    Calls Yba.prog 8 #[hV lk l r, evV 14 kd n false, .int .i64 i] w fun e w' => e = .returned (hV lk l (wrap64 (r - 1))) ∧ Below w.heap.size w w' := by
  go_enter Yba.func8, Yba.ntmps8
  go_wp2
  exact bodyPost_ret (v := hV lk l (wrap64 (r - 1))) (by simp [results, Yba.results8, go_sem]) rfl ⟨rfl, (((Below.refl _ _).alloc (Nat.le_refl _) _).alloc (by simp) _).alloc (by simp; omega) _⟩

set_option maxRecDepth 100000 in
set_option maxHeartbeats 400000 in
theorem next_other (lk : Bool) (l r op kd n i : Int) (w : World) (h1 : (op == 11) = false) (h2 : (op == 13) = false) (h3 : (op == 12) = false) (h4 : (op == 14) = false) :
    Calls Yba.prog 8 #[hV lk l r, evV op kd n false, .int .i64 i] w fun e w' => e = .returned (hV lk l r) ∧ Below w.heap.size w w' := by
  go_enter Yba.func8, Yba.ntmps8
  go_wp2
  exact bodyPost_ret (v := hV lk l r) (by simp [results, Yba.results8, go_sem]) rfl ⟨rfl, (((Below.refl _ _).alloc (Nat.le_refl _) _).alloc (by simp) _).alloc (by simp; omega) _⟩

/-- All old cells, behind a call that only makes memory. -/
theorem bcell {W w1 : World} (hb : Below W.heap.size W w1) : (∀ b o, b < W.heap.size → w1.cell? ⟨b, o, none⟩ = W.cell? ⟨b, o, none⟩) ∧ (∀ b o, b < W.heap.size → w1.frozen? ⟨b, o, none⟩ = W.frozen? ⟨b, o, none⟩) :=
  ⟨fun b o h => hb.cell (p := ⟨b, o, none⟩) h, fun b o h => hb.frozen (p := ⟨b, o, none⟩) h⟩
end Go.Proofs.Ybulkabmm
