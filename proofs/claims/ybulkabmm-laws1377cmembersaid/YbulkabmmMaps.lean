/-
  The maps of the laws over 'made': how they are filled (zzs1377cmap), asked (made), and the plain search (zzs1377chas).
-/
import Derived.Test.YbulkabmmRows
import Derived.WalkKit
import Derived.WalkLawsBesides
import Derived.WalkSpells
import Derived.Maps.OwnSet
import Derived.Maps.Views
import Derived.OpenShut
import Derived.Deep.LoopGhost
import Derived.Deep.Cut
import Derived.Deep.CutRange
namespace Go.Proofs.Ybulkabmm
open Go.RowKit Go.Maps

/-- WHAT THE WALK IS TOLD OF A SLICE OF INTEGERS THAT CAME IN. -/
def IsRow (k : IntKind) (w : World) (a : Option Addr) (len cap : Nat) (zs : List Int) : Prop :=
  (a = none ∧ len = 0 ∧ cap = 0 ∧ zs = []) ∨
  ∃ x, a = some x ∧ len ≤ cap ∧ cap ≤ maxLen ∧ zs.length = cap ∧ (∀ i, i < zs.length → w.cell? (x.add i) = some (.int k (zs.getD i 0))) ∧ ∀ n ∈ zs, (Lit.int k n).wf = true
theorem IsRow.lens {k : IntKind} {w : World} {a : Option Addr} {len cap : Nat} {zs : List Int} (h : IsRow k w a len cap zs) : len ≤ zs.length ∧ len ≤ maxLen := by
  rcases h with ⟨_, rfl, _, rfl⟩ | ⟨x, _, hl, hm, hz, _⟩
  · simp
  · omega
theorem IsRow.at_ {k : IntKind} {w : World} {a : Option Addr} {len cap : Nat} {zs : List Int} (h : IsRow k w a len cap zs) {i : Nat} (hi : i < len) :
    ∃ b off, a = some ⟨b, off, none⟩ ∧ b < w.heap.size ∧ w.cell? ⟨b, off + i, none⟩ = some (.int k (zs.getD i 0)) := by
  rcases h with ⟨_, rfl, _, rfl⟩ | ⟨x, rfl, hl, hm, hz, hc, _⟩
  · omega
  · obtain ⟨b, off, rfl, hc'⟩ := ints_at hc (by omega)
    have h1 := hc' i (by omega)
    exact ⟨b, off, rfl, World.block_lt_of_cell? _ _ h1, h1⟩
theorem IsRow.wf {k : IntKind} {w : World} {a : Option Addr} {len cap : Nat} {zs : List Int} (h : IsRow k w a len cap zs) {i : Nat} (hi : i < len) : (Lit.int k (zs.getD i 0)).wf = true := by
  rcases h with ⟨_, rfl, _, rfl⟩ | ⟨x, rfl, hl, hm, hz, hc, hw⟩
  · omega
  · have : i < zs.length := by omega
    simp only [List.getD_eq_getElem?_getD, List.getElem?_eq_getElem this, Option.getD_some]
    exact hw _ (List.getElem_mem this)
theorem IsRow.later {k : IntKind} {w w' : World} {a : Option Addr} {len cap : Nat} {zs : List Int} (h : IsRow k w a len cap zs) (hb : Below w.heap.size w w') : IsRow k w' a len cap zs := by
  rcases h with h | ⟨x, h1, h2, h3, h4, hc, hw⟩
  · exact .inl h
  · refine .inr ⟨x, h1, h2, h3, h4, fun i hi => ?_, hw⟩
    have h5 := hc i hi
    have hlt := World.block_lt_of_cell? _ _ h5
    rw [hb.cell hlt]; exact h5

theorem law21 : Keyed Yba.prog 21 := int_keyed Yba.underlying21
theorem zero48 (w : World) : (zeroValue 48).run Yba.prog w = .ok (.int .u32 0) w := by kernel_rfl

/-- The value v is a map whose keys are just ks. -/
def MapIs (w : World) (v : Value) (ks : List Int) : Prop :=
  (v = .map none ∧ ks = []) ∨ ∃ b n D, v = .map (some b) ∧ w.ownsMap Yba.prog 21 (plainElem (H := Unit) Yba.prog 48) b n D ∧ ∀ x : Int, Maps.has D (.int .i32 x) = decide (x ∈ ks)

theorem MapIs.later {w w' : World} {v : Value} {ks : List Int} (h : MapIs w v ks) (hb : Below w.heap.size w w') : MapIs w' v ks := by
  rcases h with h | ⟨b, n, D, h1, ⟨es, clock, h2, h3⟩, h4⟩
  · exact .inl h
  · refine .inr ⟨b, n, D, h1, ⟨es, clock, ?_, h3⟩, h4⟩
    have hlt : b < w.heap.size := by
      rcases Nat.lt_or_ge b w.heap.size with hl | hl
      · exact hl
      · simp [Array.getElem?_eq_none hl] at h2
    rw [hb.block b hlt]; exact h2

/-- '_, ok := m[x]'. -/
theorem MapIs.look {w : World} {v : Value} {ks : List Int} (h : MapIs w v ks) {x : Int} (hx : (Lit.int .i32 x).wf = true) :
    ∃ u, (Instr.lookup 36 v (.int .i32 x) true).run Yba.prog w = .ok (.tuple #[u, .bool (decide (x ∈ ks))]) w := by
  have hkey := keyOf_int_mk (P := Yba.prog) Yba.underlying21 hx
  rcases h with ⟨rfl, rfl⟩ | ⟨b, n, D, rfl, hown, hhas⟩
  · have := Maps.look_nil (P := Yba.prog) (w := w) true law21 Yba.underlying36 (zero48 w) hkey
    exact ⟨_, by simpa using this⟩
  · obtain ⟨u, ps, hrun, _⟩ := hown.look_ok law21 Yba.underlying36 (zero48 w) (plainElem_int Yba.underlying48 (by decide)) hkey
    exact ⟨u, by rw [hrun, hhas x]⟩

theorem run_makeMap_hint (n : Int) (w : World) : (Instr.makeMap 36 (some (.int .i64 n))).run Yba.prog w = .ok (.map (some w.heap.size)) (w.alloc (.map #[] 0)) := by
  simp [Instr.makeMap, run_underlying Yba.underlying36, asInt, asIntOf]

theorem hide {p : Prop} (h : p) : Hid p := h
theorem take_yes (zs : List Int) (len j : Nat) (x : Int) (h : j < len) (hz : len ≤ zs.length) (he : zs.getD j 0 = x) : decide (x ∈ zs.take len) = true := by
  refine decide_eq_true ?_
  have hj : j < zs.length := by omega
  rw [List.getD_eq_getElem?_getD, List.getElem?_eq_getElem hj, Option.getD_some] at he
  rw [← he]
  exact List.mem_take_iff_getElem.2 ⟨j, by omega, rfl⟩
theorem take_no (zs : List Int) (j : Nat) (x : Int) (h : j < zs.length) (hn : x ∉ zs.take j) (he : zs.getD j 0 ≠ x) : x ∉ zs.take (j + 1) := by
  rw [List.getD_eq_getElem?_getD, List.getElem?_eq_getElem h, Option.getD_some] at he
  rw [List.take_succ_eq_append_getElem h]
  simp only [List.mem_append, List.mem_singleton, not_or]
  exact ⟨hn, fun e => he e.symm⟩

set_option maxRecDepth 100000 in
set_option maxHeartbeats 400000 in
theorem chas_any (a : Option Addr) (len cap : Nat) (zs : List Int) (x : Int) (w : World) (h : IsRow .i32 w a len cap zs) :
    Calls Yba.prog 11 #[.slice a len cap, .int .i32 x] w fun e w' => e = .returned (.bool (decide (x ∈ zs.take len))) ∧ w' = w := by
  have hl := h.lens
  unfold maxLen at hl
  obtain ⟨hz, hm⟩ := hl
  go_enter Yba.func11, Yba.ntmps11
  go_wp2
  go_loopg [9] len (fun g i wr => wr = w ∧ ∃ j : Nat, j ≤ len ∧ g = len - j ∧ i = .int .i64 j ∧ x ∉ zs.take j)
  case atStart => exact ⟨rfl, 0, Nat.zero_le _, rfl, rfl, by simp⟩
  case round =>
    obtain ⟨rfl, j, hj, rfl, rfl, hn⟩ := hrel
    have HN : Hid (x ∉ zs.take j) := hn
    clear hn
    by_cases hlt : j < len
    · obtain ⟨b, off, rfl, hbl, hcell⟩ := h.at_ hlt
      obtain ⟨y, hy⟩ : ∃ y, y = zs.getD j 0 := ⟨_, rfl⟩
      rw [← hy] at hcell
      have HY := hide hy
      clear hy
      by_cases he : y = x
      · have HE := hide he
        have hb : (y == x) = true := by simpa using he
        clear he
        go_wp2
        go_ret
        exact ⟨by rw [take_yes zs len j x hlt hz (HY.out.symm.trans HE.out)]; rfl, rfl⟩
      · have HE := hide he
        have hb : (y == x) = false := by simpa using he
        clear he
        go_wp2
        go_roundg (len - (j + 1))
        case measure => omega
        case rel => exact ⟨rfl, j + 1, by omega, rfl, by go_num, take_no zs j x (by omega) HN.out (fun e => HE.out (HY.out.trans e))⟩
    · obtain rfl : j = len := by omega
      go_wp2
      go_ret
      exact ⟨by rw [decide_eq_false HN.out]; rfl, rfl⟩

/-- The map in the making: its keys are the first j elements. -/
def Filled (w : World) (zs : List Int) (j : Nat) (wr : World) : Prop :=
  (∃ D, wr.ownsMap Yba.prog 21 (plainElem (H := Unit) Yba.prog 48) w.heap.size j D ∧ ∀ x : Int, Maps.has D (.int .i32 x) = decide (x ∈ zs.take j)) ∧ Below w.heap.size w wr
theorem Filled.start (w : World) (zs : List Int) : Filled w zs 0 (w.alloc (.map #[] 0)) :=
  ⟨⟨_, World.ownsMap_made _ _ _ _, fun x => by simp [Maps.has]⟩, (Below.refl _ _).alloc (Nat.le_refl _) _⟩
theorem has_step {D : DataW Unit} {zs : List Int} {j : Nat} (hD : IsMap D) (h : ∀ x : Int, Maps.has D (.int .i32 x) = decide (x ∈ zs.take j)) (hj : j < zs.length) (d : DataW Unit) (x : Int) :
    Maps.has (D.put (.int .i32 (zs.getD j 0)) d) (.int .i32 x) = decide (x ∈ zs.take (j + 1)) := by
  have ht : zs.take (j + 1) = zs.take j ++ [zs.getD j 0] := by
    rw [List.take_succ_eq_append_getElem hj, List.getD_eq_getElem?_getD, List.getElem?_eq_getElem hj, Option.getD_some]
  rw [ht]
  by_cases e : x = zs.getD j 0
  · rw [e, has_put_same (k := .int .i32 (zs.getD j 0)) hD trivial]
    simp
  · rw [has_put_other (fun h => e (by injection h)), h x]
    simp only [List.mem_append, List.mem_singleton, e, or_false]

set_option maxRecDepth 100000 in
set_option maxHeartbeats 400000 in
theorem cmap_any (a : Option Addr) (len cap : Nat) (zs : List Int) (w : World) (h : IsRow .i32 w a len cap zs) (hs : len ≤ 1024) :
    Calls Yba.prog 9 #[.slice a len cap] w fun e w' => ∃ r, e = .returned (.map r) ∧ MapIs w' (.map r) (zs.take len) ∧ Below w.heap.size w w' := by
  have hl := h.lens
  obtain ⟨hz, _⟩ := hl
  have hmm := run_makeMap_hint
  cases a with
  | none =>
    obtain ⟨rfl, rfl⟩ : len = 0 ∧ cap = 0 := by
      rcases h with ⟨_, h, h', _⟩ | ⟨x, h, _⟩
      · exact ⟨h, h'⟩
      · cases h
    have hnil := fun w => Lib.run_eql_slice_nil (P := Yba.prog) w 34 21 none 0 0 0 0 Yba.underlying34
    go_enter Yba.func9, Yba.ntmps9
    go_wp2
    go_ret
    exact ⟨_, rfl, .inl ⟨rfl, by simp⟩, Below.refl _ _⟩
  | some a =>
    have hnil := fun w => Lib.run_eql_slice_nil (P := Yba.prog) w 34 21 (some a) len cap 0 0 Yba.underlying34
    go_enter Yba.func9, Yba.ntmps9
    go_wp2
    clear hnil hmm
    go_loopg [13] len (fun g i wr => ∃ j : Nat, j ≤ len ∧ g = len - j ∧ i = .int .i64 j ∧ Filled w zs j wr)
    case atStart => exact ⟨0, Nat.zero_le _, rfl, rfl, Filled.start w zs⟩
    case round =>
      obtain ⟨j, hj, rfl, rfl, hf⟩ := hrel
      obtain ⟨⟨D, hown, hhas⟩, hbel⟩ := hf
      have HH := hide hhas
      have HB := hide hbel
      clear hhas hbel
      by_cases hlt : j < len
      · obtain ⟨b, off, ha, hbl, hcell⟩ := h.at_ hlt
        have hwf := h.wf hlt
        obtain rfl : a = ⟨b, off, none⟩ := by injection ha
        have hcr : wr.cell? ⟨b, off + j, none⟩ = some (.int .i32 (zs.getD j 0)) := by rw [HB.out.cell (p := ⟨b, off + j, none⟩) hbl]; exact hcell
        obtain ⟨y, hy⟩ : ∃ y, y = zs.getD j 0 := ⟨_, rfl⟩
        rw [← hy] at hcr hwf
        have HY := hide hy
        have hkey := keyOf_int_mk (P := Yba.prog) Yba.underlying21 hwf
        clear hy hcell ha hwf
        go_wp2_with (at_mapUpdate; refine wpList_mapUpdate_own _ rfl _ _ _ 36 rfl 21 48 law21 Yba.underlying36 _ w.heap.size j _ rfl hown (by unfold maxLen; omega) _ _ _ rfl rfl hkey _ [] (plainElem_int Yba.underlying48 (by go_wf2)) ?_; intro w1 hown1 hgrow1)
        go_roundg (len - (j + 1))
        case measure => omega
        case rel =>
          refine ⟨j + 1, by omega, rfl, by go_num, ⟨_, hown1, fun x => ?_⟩, HB.out.grown hgrow1 HB.out.size (fun k hk => by cases hk; exact Nat.le_refl _)⟩
          rw [HY.out]
          exact has_step hown.isMap HH.out (by omega) _ x
      · obtain rfl : j = len := by omega
        go_wp2
        go_ret
        exact ⟨_, rfl, .inr ⟨_, _, D, rfl, hown, HH.out⟩, HB.out⟩

/-- The struct of the two maps. -/
def uBlk (vb vr : Value) : Array Value := #[.pointer none, .int .u8 0, .int .u64 0, .int .i32 0, vb, vr]
theorem cell_of {w : World} {b o : Nat} {cs : Array Value} {t : TypeId} {v : Value} (h : w.heap[b]? = some (.cells cs t)) (hv : cs[o]? = some v) : w.cell? ⟨b, o, none⟩ = some v := by
  simp [World.cell?, h, hv]
theorem lt_of_heap {w : World} {b : Nat} {o : Obj} (h : w.heap[b]? = some o) : b < w.heap.size := by
  rcases Nat.lt_or_ge b w.heap.size with hl | hl
  · exact hl
  · simp [Array.getElem?_eq_none hl] at h

set_option maxRecDepth 100000 in
set_option maxHeartbeats 400000 in
theorem made_rel (bu : Nat) (vb vr : Value) (ks : List Int) (x : Int) (w : World) (hU : w.heap[bu]? = some (.cells (uBlk vb vr) 40)) (hm : MapIs w vr ks) (hx : (Lit.int .i32 x).wf = true) :
    Calls Yba.prog 10 #[.pointer (some ⟨bu, 0, none⟩), .agg #[.int .i32 x, .bool true]] w fun e w' => e = .returned (.bool (decide (x ∈ ks))) ∧ Below w.heap.size w w' := by
  have hl := lt_of_heap hU
  have c5 := cell_of (o := 5) hU (v := vr) rfl
  have hm2 : MapIs ((w.alloc (.cells #[.int .i32 x, .bool true] 43)).drew) vr ks := hm.later (((Below.refl _ _).alloc (Nat.le_refl _) _).drew)
  obtain ⟨u, hlook⟩ := hm2.look hx
  clear hm hm2 hU
  go_enter Yba.func10, Yba.ntmps10
  go_wp2
  go_region
  all_goals
    go_wp2
    go_ret
    exact ⟨rfl, (((Below.refl _ _).alloc (Nat.le_refl _) _).drew)⟩

set_option maxRecDepth 100000 in
set_option maxHeartbeats 400000 in
theorem made_base (bu : Nat) (vb vr : Value) (ks : List Int) (x : Int) (w : World) (hU : w.heap[bu]? = some (.cells (uBlk vb vr) 40)) (hm : MapIs w vb ks) (hx : (Lit.int .i32 x).wf = true) :
    Calls Yba.prog 10 #[.pointer (some ⟨bu, 0, none⟩), .agg #[.int .i32 x, .bool false]] w fun e w' => e = .returned (.bool (decide (x ∈ ks))) ∧ Below w.heap.size w w' := by
  have hl := lt_of_heap hU
  have c4 := cell_of (o := 4) hU (v := vb) rfl
  have hm2 : MapIs ((w.alloc (.cells #[.int .i32 x, .bool false] 43)).drew) vb ks := hm.later (((Below.refl _ _).alloc (Nat.le_refl _) _).drew)
  obtain ⟨u, hlook⟩ := hm2.look hx
  clear hm hm2 hU
  go_enter Yba.func10, Yba.ntmps10
  go_wp2
  go_region
  all_goals
    go_wp2
    go_ret
    exact ⟨rfl, (((Below.refl _ _).alloc (Nat.le_refl _) _).drew)⟩
end Go.Proofs.Ybulkabmm
