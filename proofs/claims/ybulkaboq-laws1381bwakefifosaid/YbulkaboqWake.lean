/-
  Wake, its three ways: nobody waits; the one who waits first has one behind; the last one.
-/
import Derived.Test.YbulkaboqLock
namespace Go.Proofs.Ybulkaboq
open Go.Conc Go.RowKit

theorem hide {p : Prop} (h : p) : Hid p := h
/-- Every block that was there, but for those of S, is as it was; the streams are as they were. -/
structure Kept (S : List Nat) (w w' : World) : Prop where
  os : w'.os = w.os
  tape : w'.tape = w.tape
  output : w'.output = w.output
  size : w.heap.size ≤ w'.heap.size
  block : ∀ j, j < w.heap.size → j ∉ S → w'.heap[j]? = w.heap[j]?

theorem Kept.refl (S : List Nat) (w : World) : Kept S w w := ⟨rfl, rfl, rfl, Nat.le_refl _, fun _ _ _ => rfl⟩
theorem Kept.trans {S : List Nat} {a b c : World} (h : Kept S a b) (k : Kept S b c) : Kept S a c :=
  ⟨k.os.trans h.os, k.tape.trans h.tape, k.output.trans h.output, Nat.le_trans h.size k.size, fun j hj hn => (k.block j (Nat.lt_of_lt_of_le hj h.size) hn).trans (h.block j hj hn)⟩
theorem Kept.mono {S S' : List Nat} {a b : World} (h : Kept S a b) (hs : ∀ j, j ∈ S → j ∈ S') : Kept S' a b :=
  ⟨h.os, h.tape, h.output, h.size, fun j hj hn => h.block j hj (fun m => hn (hs j m))⟩
theorem Kept.drewN {S : List Nat} {a w : World} (h : Kept S a w) (n : Nat) : Kept S a (w.drewN n) := h.trans ⟨rfl, rfl, rfl, Nat.le_refl _, fun _ _ _ => rfl⟩
theorem Kept.drew {S : List Nat} {a w : World} (h : Kept S a w) : Kept S a w.drew := h.trans ⟨rfl, rfl, rfl, Nat.le_refl _, fun _ _ _ => rfl⟩
theorem Kept.alloc {S : List Nat} {a w : World} (h : Kept S a w) (o : Obj) : Kept S a (w.alloc o) :=
  h.trans ⟨rfl, rfl, rfl, by simp, fun j hj _ => Below.heap_alloc _ _ _ hj⟩
theorem Kept.setCell {S : List Nat} {a w : World} (h : Kept S a w) {p : Addr} (hp : p.block ∈ S ∨ a.heap.size ≤ p.block) (u : Value) : Kept S a (w.setCell p u) :=
  ⟨h.os, h.tape, h.output, by simpa using h.size, fun j hj hn => by
    rw [Below.heap_setCell _ _ _ _ (fun e => by rcases hp with hp | hp; exact hn (e ▸ hp); omega)]
    exact h.block j hj hn⟩
theorem Kept.setChan {S : List Nat} {a w : World} (h : Kept S a w) {c : Nat} (hc : c ∈ S) (cap : Nat) (buf : Array Value) (cl : Bool) (s r : Nat) (tm : Bool) : Kept S a (w.setChan c cap buf cl s r tm) :=
  ⟨h.os, h.tape, h.output, by simpa [World.setChan] using h.size, fun j hj hn => by
    simp only [World.setChan]
    have hcj : c ≠ j := fun e => hn (e ▸ hc)
    rw [Array.getElem?_setIfInBounds_ne hcj]
    exact h.block j hj hn⟩
theorem Kept.below {S : List Nat} {w w' : World} (h : Kept S w w') {B : Nat} (hB : B ≤ w.heap.size) (hs : ∀ j, j ∈ S → B ≤ j) : Below B w w' :=
  ⟨h.os, h.tape, h.output, h.size, fun j hj => h.block j (by omega) (fun m => by have := hs j m; omega)⟩

/-- A block of cells, none of them marked. -/
theorem cell_of {w : World} {b o : Nat} {cs : Array Value} {t : TypeId} {v : Value} (h : w.heap[b]? = some (.cells cs t)) (hv : cs[o]? = some v) : w.cell? ⟨b, o, none⟩ = some v := by
  simp [World.cell?, h, hv]
theorem frozen_of {w : World} {b o : Nat} {cs : Array Value} {t : TypeId} (h : w.heap[b]? = some (.cells cs t)) : w.frozen? ⟨b, o, none⟩ = false := by
  simp [World.frozen?, h]
theorem lt_of_heap {w : World} {b : Nat} {o : Obj} (h : w.heap[b]? = some o) : b < w.heap.size := by
  rcases Nat.lt_or_ge b w.heap.size with hl | hl
  · exact hl
  · simp [Array.getElem?_eq_none hl] at h
theorem heap_set {w : World} {b o : Nat} {cs : Array Value} {t : TypeId} (v : Value) (h : w.heap[b]? = some (.cells cs t)) : (w.setCell ⟨b, o, none⟩ v).heap[b]? = some (.cells (cs.setIfInBounds o v) t) := by
  simp [World.setCell, Array.getElem?_modify, h]
theorem heap_drewN (w : World) (n : Nat) : (w.drewN n).heap = w.heap := rfl
theorem heap_drew (w : World) : w.drew.heap = w.heap := rfl

theorem Kept.undrew {S : List Nat} {w w' : World} (h : Kept S w.drew w') : Kept S w w' := ⟨h.os, h.tape, h.output, h.size, h.block⟩
theorem heap_other {w : World} {a : Addr} {k : Nat} {o : Obj} (u : Value) (h : w.heap[k]? = some o) (hne : k ≠ a.block) : (w.setCell a u).heap[k]? = some o := by
  rw [Below.heap_setCell _ _ _ _ hne]; exact h

/-- A waiter's cells; the queue's. -/
abbrev wBlk (c : Nat) (p n : Value) : Array Value := #[.chan (some c), p, n]
abbrev qBlk (g pd : Int) (hd tl : Value) : Array Value := #[.int .u32 g, .int .u32 pd, hd, tl]
abbrev nilP : Value := .pointer none
abbrev ptr (b : Nat) : Value := .pointer (some ⟨b, 0, none⟩)

set_option maxRecDepth 100000 in
set_option maxHeartbeats 400000 in
theorem remove_first (bq bm bn c : Nat) (g pd : Int) (tl vc vp vn : Value) (w : World) (hQ : w.heap[bq]? = some (.cells (qBlk g pd (ptr bm) tl) 35)) (hM : w.heap[bm]? = some (.cells (wBlk c nilP (ptr bn)) 28)) (hN : w.heap[bn]? = some (.cells #[vc, vp, vn] 28)) (hne : bm ≠ bn) :
    Calls Yba.prog 10 #[ptr bq, ptr bm] w fun e w' => e = .returned (.tuple #[]) ∧ w'.heap[bq]? = some (.cells (qBlk g pd (ptr bn) tl) 35) ∧ w'.heap[bm]? = some (.cells (wBlk c nilP nilP) 28) ∧ w'.heap[bn]? = some (.cells #[vc, nilP, vn] 28) ∧ Kept [bq, bm, bn] w w' := by
  have n1 : bq ≠ bm := by rintro rfl; rw [hQ] at hM; cases hM
  have n2 : bq ≠ bn := by rintro rfl; rw [hQ] at hN; cases hN
  have q2 := cell_of (o := 2) hQ (v := ptr bm) rfl
  have z2 := frozen_of (o := 2) hQ
  have m1 := cell_of (o := 1) hM (v := nilP) rfl
  have m2 := cell_of (o := 2) hM (v := ptr bn) rfl
  have zm1 := frozen_of (o := 1) hM
  have zm2 := frozen_of (o := 2) hM
  have x1 := cell_of (o := 1) hN (v := vp) rfl
  have zx1 := frozen_of (o := 1) hN
  have HQ := hide hQ
  have HM := hide hM
  have HN := hide hN
  clear hQ hM hN
  have e1 : ¬ bm = bq := fun h => n1 h.symm
  have e2 : ¬ bn = bq := fun h => n2 h.symm
  have e3 : ¬ bn = bm := fun h => hne h.symm
  go_enter Yba.func10, Yba.ntmps10
  go_wp2
  go_region
  all_goals
    go_wp2
    go_end0
    refine ⟨rfl, ?_, ?_, ?_, ?_⟩
    · exact heap_other _ (heap_other _ (heap_other _ (heap_set _ HQ.out) n2) n1) n1
    · exact heap_set _ (heap_set _ (heap_other _ (heap_other _ HM.out e1) hne))
    · exact heap_other _ (heap_other _ (heap_set _ (heap_other _ HN.out e2)) e3) e3
    · exact ((((((Kept.refl _ _).setCell (.inl (by simp)) _).setCell (.inl (by simp)) _).setCell (.inl (by simp)) _).setCell (.inl (by simp)) _).drew)

set_option maxRecDepth 100000 in
set_option maxHeartbeats 400000 in
theorem remove_last (bq bm c : Nat) (g pd : Int) (tl : Value) (w : World) (hQ : w.heap[bq]? = some (.cells (qBlk g pd (ptr bm) tl) 35)) (hM : w.heap[bm]? = some (.cells (wBlk c nilP nilP) 28)) :
    Calls Yba.prog 10 #[ptr bq, ptr bm] w fun e w' => e = .returned (.tuple #[]) ∧ w'.heap[bq]? = some (.cells (qBlk g pd nilP nilP) 35) ∧ w'.heap[bm]? = some (.cells (wBlk c nilP nilP) 28) ∧ Kept [bq, bm] w w' := by
  have n1 : bq ≠ bm := by rintro rfl; rw [hQ] at hM; cases hM
  have q2 := cell_of (o := 2) hQ (v := ptr bm) rfl
  have z2 := frozen_of (o := 2) hQ
  have q3 := cell_of (o := 3) hQ (v := tl) rfl
  have z3 := frozen_of (o := 3) hQ
  have m1 := cell_of (o := 1) hM (v := nilP) rfl
  have m2 := cell_of (o := 2) hM (v := nilP) rfl
  have zm1 := frozen_of (o := 1) hM
  have zm2 := frozen_of (o := 2) hM
  have HQ := hide hQ
  have HM := hide hM
  clear hQ hM
  have e1 : ¬ bm = bq := fun h => n1 h.symm
  go_enter Yba.func10, Yba.ntmps10
  go_wp2
  go_end0
  refine ⟨rfl, ?_, ?_, ?_⟩
  · exact heap_other _ (heap_other _ (heap_set _ (heap_set _ HQ.out)) n1) n1
  · exact heap_set _ (heap_set _ (heap_other _ (heap_other _ HM.out e1) e1))
  · exact (((((Kept.refl _ _).setCell (.inl (by simp)) _).setCell (.inl (by simp)) _).setCell (.inl (by simp)) _).setCell (.inl (by simp)) _)

set_option maxRecDepth 100000 in
set_option maxHeartbeats 400000 in
theorem wake_none (bq : Nat) (pd : Int) (tl : Value) (w : World) (hQ : w.heap[bq]? = some (.cells (qBlk 0 pd nilP tl) 35)) :
    Calls Yba.prog 5 #[ptr bq] w fun e w' => e = .returned (.tuple #[]) ∧ w'.heap[bq]? = some (.cells (qBlk 0 ((pd + 1) % 4294967296) nilP tl) 35) ∧ Kept [bq] w w' := by
  have q0 := cell_of (o := 0) hQ (v := .int .u32 0) rfl
  have z0 := frozen_of (o := 0) hQ
  have HQ := hide hQ
  clear hQ
  go_enter Yba.func5, Yba.ntmps5
  go_wp2_with fail
  refine (lock_free bq _ q0 z0).mono ?_
  rintro e w1 ⟨rfl, hw1⟩
  have HQ1 : Hid (w1.heap[bq]? = some (.cells (qBlk 1 pd nilP tl) 35)) := by rw [hw1]; exact heap_set _ HQ.out
  have K1 : Hid (Kept [bq] w w1) := by rw [hw1]; exact ((Kept.refl _ _).setCell (.inl (by simp)) _).drew
  clear hw1 q0 z0
  have q0 := cell_of (o := 0) HQ1.out (v := .int .u32 1) rfl
  have z0 := frozen_of (o := 0) HQ1.out
  have q1 := cell_of (o := 1) HQ1.out (v := .int .u32 pd) rfl
  have z1 := frozen_of (o := 1) HQ1.out
  have q2 := cell_of (o := 2) HQ1.out (v := nilP) rfl
  go_wp2_with fail
  have HQ2 := hide (heap_set (o := 1) (.int .u32 ((pd + 1) % 4294967296)) HQ1.out)
  refine (unlock_any bq _ _ (cell_of (o := 0) HQ2.out (v := .int .u32 1) rfl) (frozen_of (o := 0) HQ2.out)).mono ?_
  rintro e w2 ⟨rfl, hw2⟩
  have HQ3 : Hid (w2.heap[bq]? = some (.cells (qBlk 0 ((pd + 1) % 4294967296) nilP tl) 35)) := by rw [hw2]; exact heap_set _ HQ2.out
  have K3 : Hid (Kept [bq] w w2) := by rw [hw2]; exact ((K1.out.setCell (.inl (by simp)) _).setCell (.inl (by simp)) _).drew
  clear hw2
  go_wp2
  first | go_end0 | (simp only [Exit.inBlock, Exit.then]; refine bodyPost_ret (results_none rfl _ _ _) rfl ?_) | refine bodyPost_ret (results_none rfl _ _ _) rfl ?_
  exact ⟨rfl, HQ3.out, K3.out⟩

set_option maxRecDepth 100000 in
set_option maxHeartbeats 400000 in
theorem wake_first (bq bm bn c : Nat) (pd : Int) (tl vc vp vn : Value) (w : World) {s r : Nat} (hQ : w.heap[bq]? = some (.cells (qBlk 0 pd (ptr bm) tl) 35)) (hM : w.heap[bm]? = some (.cells (wBlk c nilP (ptr bn)) 28)) (hN : w.heap[bn]? = some (.cells #[vc, vp, vn] 28)) (hC : w.heap[c]? = some (.chan 1 #[] false s r false)) (hne : bm ≠ bn) :
    Calls Yba.prog 5 #[ptr bq] w fun e w' => e = .returned (.tuple #[]) ∧ w'.heap[bq]? = some (.cells (qBlk 0 pd (ptr bn) tl) 35) ∧ w'.heap[bm]? = some (.cells (wBlk c nilP nilP) 28) ∧ w'.heap[bn]? = some (.cells #[vc, nilP, vn] 28) ∧
      w'.heap[c]? = some (.chan 1 #[.agg #[]] false (s + 1) r false) ∧ Kept [bq, bm, bn, c] w w' := by
  have n1 : bq ≠ bm := by rintro rfl; rw [hQ] at hM; cases hM
  have n2 : bq ≠ bn := by rintro rfl; rw [hQ] at hN; cases hN
  have n3 : bq ≠ c := by rintro rfl; rw [hQ] at hC; cases hC
  have n4 : bm ≠ c := by rintro rfl; rw [hM] at hC; cases hC
  have n5 : bn ≠ c := by rintro rfl; rw [hN] at hC; cases hC
  have q0 := cell_of (o := 0) hQ (v := .int .u32 0) rfl
  have z0 := frozen_of (o := 0) hQ
  have HQ := hide hQ
  have HM := hide hM
  have HN := hide hN
  have HC := hide hC
  clear hQ hM hN hC
  go_enter Yba.func5, Yba.ntmps5
  go_wp2_with fail
  refine (lock_free bq _ q0 z0).mono ?_
  rintro e w1 ⟨rfl, hw1⟩
  have HQ1 : Hid (w1.heap[bq]? = some (.cells (qBlk 1 pd (ptr bm) tl) 35)) := by rw [hw1]; exact heap_set _ HQ.out
  have K1 : Hid (Kept [bq] w w1) := by rw [hw1]; exact ((Kept.refl _ _).setCell (.inl (by simp)) _).drew
  clear hw1 q0 z0
  have q2 := cell_of (o := 2) HQ1.out (v := ptr bm) rfl
  go_wp2_with fail
  refine (remove_first bq bm bn c 1 pd tl vc vp vn _ HQ1.out ((K1.out.block _ (lt_of_heap HM.out) (by simpa using n1.symm)).trans HM.out) ((K1.out.block _ (lt_of_heap HN.out) (by simpa using n2.symm)).trans HN.out) hne).mono ?_
  rintro e w2 ⟨rfl, hQ2, hM2, hN2, hk2⟩
  have HQ2 := hide hQ2
  have HM2 := hide hM2
  have HN2 := hide hN2
  have K2 : Hid (Kept [bq, bm, bn, c] w w2) := (K1.out.mono (by simp)).trans (hk2.mono (by simp))
  have HC2 : Hid (w2.heap[c]? = some (.chan 1 #[] false s r false)) := by
    show w2.heap[c]? = _
    rw [hk2.block _ (Nat.lt_of_lt_of_le (lt_of_heap HC.out) K1.out.size) (by simp [n3.symm, n4.symm, n5.symm]), K1.out.block _ (lt_of_heap HC.out) (by simpa using n3.symm)]
    exact HC.out
  clear hQ2 hM2 hN2 hk2 q2
  go_wp2_with fail
  refine (unlock_any bq _ _ (cell_of (o := 0) HQ2.out (v := .int .u32 1) rfl) (frozen_of (o := 0) HQ2.out)).mono ?_
  rintro e w3 ⟨rfl, hw3⟩
  have HQ3 : Hid (w3.heap[bq]? = some (.cells (qBlk 0 pd (ptr bn) tl) 35)) := by rw [hw3]; exact heap_set _ HQ2.out
  have HM3 : Hid (w3.heap[bm]? = some (.cells (wBlk c nilP nilP) 28)) := by rw [hw3]; exact heap_other _ HM2.out n1.symm
  have HN3 : Hid (w3.heap[bn]? = some (.cells #[vc, nilP, vn] 28)) := by rw [hw3]; exact heap_other _ HN2.out n2.symm
  have HC3 : Hid (w3.heap[c]? = some (.chan 1 #[] false s r false)) := by rw [hw3]; exact heap_other _ HC2.out n3.symm
  have K3 : Hid (Kept [bq, bm, bn, c] w w3) := by rw [hw3]; exact (K2.out.setCell (.inl (by simp)) _).drew
  clear hw3
  have m0 := cell_of (o := 0) HM3.out (v := .chan (some c)) rfl
  go_upto_region 7 with fail
  refine wp_region_comm_k [_, _, _, _, _] _ [] rfl (fun K hK => ?_)
  simp only [List.cons_append, List.nil_append] at hK ⊢
  go_wp2
  refine ⟨_, _, commTo_send (c := c) (v := .agg #[]) (z' := .tuple #[]) (cap := 1) (buf := #[]) (s := s) (r := r) (tm := false) (w₁ := w3) (by simp [go_sem, execOp, scase, Act.eval]) HC3.out (by simp), ?_⟩
  simp only [Act.put]
  go_wp2
  first | go_end0 | (simp only [Exit.inBlock, Exit.then]; refine bodyPost_ret (results_none rfl _ _ _) rfl ?_) | refine bodyPost_ret (results_none rfl _ _ _) rfl ?_
  have key : ∀ j, j ≠ c → (w3.setChan c 1 #[.agg #[]] false (s + 1) r false).heap[j]? = w3.heap[j]? := by
    intro j hj
    simp only [World.setChan]
    rw [Array.getElem?_setIfInBounds_ne hj.symm]
  exact ⟨rfl, (key _ n3).trans HQ3.out, (key _ n4).trans HM3.out, (key _ n5).trans HN3.out, heap_setChan _ _ _ _ _ _ _ _ (lt_of_heap HC3.out), K3.out.setChan (by simp) _ _ _ _ _ _⟩

set_option maxRecDepth 100000 in
set_option maxHeartbeats 400000 in
theorem wake_last (bq bm c : Nat) (pd : Int) (tl : Value) (w : World) {s r : Nat} (hQ : w.heap[bq]? = some (.cells (qBlk 0 pd (ptr bm) tl) 35)) (hM : w.heap[bm]? = some (.cells (wBlk c nilP nilP) 28)) (hC : w.heap[c]? = some (.chan 1 #[] false s r false)) :
    Calls Yba.prog 5 #[ptr bq] w fun e w' => e = .returned (.tuple #[]) ∧ w'.heap[bq]? = some (.cells (qBlk 0 pd nilP nilP) 35) ∧ w'.heap[bm]? = some (.cells (wBlk c nilP nilP) 28) ∧
      w'.heap[c]? = some (.chan 1 #[.agg #[]] false (s + 1) r false) ∧ Kept [bq, bm, c] w w' := by
  have n1 : bq ≠ bm := by rintro rfl; rw [hQ] at hM; cases hM
  have n3 : bq ≠ c := by rintro rfl; rw [hQ] at hC; cases hC
  have n4 : bm ≠ c := by rintro rfl; rw [hM] at hC; cases hC
  have q0 := cell_of (o := 0) hQ (v := .int .u32 0) rfl
  have z0 := frozen_of (o := 0) hQ
  have HQ := hide hQ
  have HM := hide hM
  have HC := hide hC
  clear hQ hM hC
  go_enter Yba.func5, Yba.ntmps5
  go_wp2_with fail
  refine (lock_free bq _ q0 z0).mono ?_
  rintro e w1 ⟨rfl, hw1⟩
  have HQ1 : Hid (w1.heap[bq]? = some (.cells (qBlk 1 pd (ptr bm) tl) 35)) := by rw [hw1]; exact heap_set _ HQ.out
  have K1 : Hid (Kept [bq] w w1) := by rw [hw1]; exact ((Kept.refl _ _).setCell (.inl (by simp)) _).drew
  clear hw1 q0 z0
  have q2 := cell_of (o := 2) HQ1.out (v := ptr bm) rfl
  go_wp2_with fail
  refine (remove_last bq bm c 1 pd tl _ HQ1.out ((K1.out.block _ (lt_of_heap HM.out) (by simpa using n1.symm)).trans HM.out)).mono ?_
  rintro e w2 ⟨rfl, hQ2, hM2, hk2⟩
  have HQ2 := hide hQ2
  have HM2 := hide hM2
  have K2 : Hid (Kept [bq, bm, c] w w2) := (K1.out.mono (by simp)).trans (hk2.mono (by simp))
  have HC2 : Hid (w2.heap[c]? = some (.chan 1 #[] false s r false)) := by
    show w2.heap[c]? = _
    rw [hk2.block _ (Nat.lt_of_lt_of_le (lt_of_heap HC.out) K1.out.size) (by simp [n3.symm, n4.symm]), K1.out.block _ (lt_of_heap HC.out) (by simpa using n3.symm)]
    exact HC.out
  clear hQ2 hM2 hk2 q2
  go_wp2_with fail
  refine (unlock_any bq _ _ (cell_of (o := 0) HQ2.out (v := .int .u32 1) rfl) (frozen_of (o := 0) HQ2.out)).mono ?_
  rintro e w3 ⟨rfl, hw3⟩
  have HQ3 : Hid (w3.heap[bq]? = some (.cells (qBlk 0 pd nilP nilP) 35)) := by rw [hw3]; exact heap_set _ HQ2.out
  have HM3 : Hid (w3.heap[bm]? = some (.cells (wBlk c nilP nilP) 28)) := by rw [hw3]; exact heap_other _ HM2.out n1.symm
  have HC3 : Hid (w3.heap[c]? = some (.chan 1 #[] false s r false)) := by rw [hw3]; exact heap_other _ HC2.out n3.symm
  have K3 : Hid (Kept [bq, bm, c] w w3) := by rw [hw3]; exact (K2.out.setCell (.inl (by simp)) _).drew
  clear hw3
  have m0 := cell_of (o := 0) HM3.out (v := .chan (some c)) rfl
  go_upto_region 7 with fail
  refine wp_region_comm_k [_, _, _, _, _] _ [] rfl (fun K hK => ?_)
  simp only [List.cons_append, List.nil_append] at hK ⊢
  go_wp2
  refine ⟨_, _, commTo_send (c := c) (v := .agg #[]) (z' := .tuple #[]) (cap := 1) (buf := #[]) (s := s) (r := r) (tm := false) (w₁ := w3) (by simp [go_sem, execOp, scase, Act.eval]) HC3.out (by simp), ?_⟩
  simp only [Act.put]
  go_wp2
  first | go_end0 | (simp only [Exit.inBlock, Exit.then]; refine bodyPost_ret (results_none rfl _ _ _) rfl ?_) | refine bodyPost_ret (results_none rfl _ _ _) rfl ?_
  have key : ∀ j, j ≠ c → (w3.setChan c 1 #[.agg #[]] false (s + 1) r false).heap[j]? = w3.heap[j]? := by
    intro j hj
    simp only [World.setChan]
    rw [Array.getElem?_setIfInBounds_ne hj.symm]
  exact ⟨rfl, (key _ n3).trans HQ3.out, (key _ n4).trans HM3.out, heap_setChan _ _ _ _ _ _ _ _ (lt_of_heap HC3.out), K3.out.setChan (by simp) _ _ _ _ _ _⟩
end Go.Proofs.Ybulkaboq
