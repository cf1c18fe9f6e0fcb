/-
  THE PROOF OF 'Rows.LawS1386AClosureSaid': the frame is that of a law's shell, turned to an array of 16 words; the walk is YbulkabriLaw's 'law_walk'.
-/
import Derived.Test.YbulkabriRows
import Derived.Test.YbulkabriLaw
import Derived.Deep.Grids
import Derived.WalkKit
import Derived.ProofKit
import Derived.OpenShut
import Derived.ShutString
import Derived.ChangeOld
import Derived.Below
namespace Go.Proofs.Ybulkabri.lawS1386AClosure
open Go.ChangeShapes Go.WideShapes Go.ChangeAt Go.RowKit
open Go.ChangeMaps (open_string shut_string)
set_option linter.unusedVariables false

theorem own : ownKnob Yba.prog.godebug = none := by kernel_rfl
theorem laidOut : laidOutB Yba.prog = true := by kernel_rfl
theorem cells25 : Yba.prog.cellsOf 25 = 16 := by kernel_rfl

/-- The set that came in: sixteen words. -/
theorem open_set {H : Type} {enc : TypeId × Value → H} {w : World} {base b0 : Nat} {spare : Nat → Bool} {held : Bool} {r : Reach} {v : Value} {d : DataW H} {ps : List MemPlace}
    (hval : Value.okWide Yba.prog w r b0 25 v) (hd : DataW.Trod enc Yba.prog w base spare held 25 v d ps) : ∃ R, Fits R ∧ v = .agg (words R) := by
  unfold Value.okWide at hval
  rw [Yba.underlying25] at hval
  obtain ⟨cs, rfl, hsz, _⟩ := hval
  rw [cells25] at hsz
  obtain ⟨fuel, hf⟩ := hd
  obtain ⟨xs, m, _, _, _, hl, hall⟩ := DataW.trod_array Yba.underlying25 hf
  have hz : ∀ i, i < 16 → ∃ z, cs[i]? = some (.int .u64 z) ∧ (Lit.int .u64 z).wf = true := by
    intro i hi
    have h1 := hall i hi
    rw [cells24, Nat.mul_one, List.getElem?_eq_getElem (by omega)] at h1
    obtain ⟨z, h2, _, hw⟩ := DataW.trod_int Yba.underlying24 h1
    refine ⟨z, ?_, hw⟩
    have h3 := congrArg (·[0]?) h2
    simpa [List.getElem?_take, List.getElem?_drop, Value.cells] using h3
  refine ⟨fun i => match cs[i]? with | some (.int _ z) => z.toNat | _ => 0, fun i => ?_, ?_⟩
  · by_cases hi : i < 16
    · obtain ⟨z, h1, hw⟩ := hz i hi
      have := bounds_u64 hw
      simp only [h1]
      omega
    · have h1 : cs[i]? = none := Array.getElem?_eq_none (by omega)
      simp only [h1]
      omega
  · congr 1
    apply Array.ext_getElem?
    intro i
    by_cases hi : i < 16
    · obtain ⟨z, h1, hw⟩ := hz i hi
      have := bounds_u64 hw
      rw [words_at _ hi, h1]
      simp only
      congr 2
      omega
    · rw [Array.getElem?_eq_none (by omega), Array.getElem?_eq_none (by rw [words_size]; omega)]

/-! ### THE ROW's STEP -/
set_option maxRecDepth 100000 in
theorem lifted (os : Os) (started : os.Started) (H : Type) (enc : TypeId × Value → H) :
    ReturnsInHanded {} Yba.checked os 3 .any (Rows.lawS1386AClosureSpec.pre6 enc Yba.prog Yba.f3 Rows.lawS1386AClosureRow.domain false) (Rows.lawS1386AClosureSpec.post enc Yba.prog Yba.f3 false true false false) := by
  refine returnsInHanded_of_change (C := Yba.checked) own started (by kernel_rfl) Yba.func3
    (ChangeSpec.witness6 (enc := enc) (C := Yba.checked) false ⟨#[], #[.int .u8 0, .slice none 0 0, .int .u16 0, .agg (words fun _ => 0)], []⟩ 8 (by kernel_rfl) (by kernel_rfl) (by kernel_rfl) (by kernel_rfl)) ?_
  intro W base args ds gs before hval0 hW hcnd _
  have hval : ∀ (j : Nat) t v, Yba.f3.params[j]? = some t → args[j]? = some v → Value.okWide Yba.prog W .any base t v := hval0
  have hW' := hW
  obtain ⟨p, q, hA0, hV, rfl, hfz, hnd⟩ := hW
  have hA : DataW.TrodAll enc Yba.prog W 0 (fun _ => true) true Yba.f3.params.toList args.toList ds p := hA0
  rw [Yba.params3] at hA hval
  obtain ⟨v0, vs0, d0, ds0, p0, q0, hargs, rfl, rfl, h0, r0⟩ := trodAll_cons hA
  obtain ⟨v1, vs1, d1, ds1, p1, q1, rfl, rfl, rfl, h1, r1⟩ := trodAll_cons r0
  obtain ⟨v2, vs2, d2, ds2, p2, q2, rfl, rfl, rfl, h2, r2⟩ := trodAll_cons r1
  obtain ⟨v3, vs3, d3, ds3, p3, q3, rfl, rfl, rfl, h3, r3⟩ := trodAll_cons r2
  obtain ⟨rfl, rfl, rfl⟩ := trodAll_nil r3
  obtain rfl : args = #[v0, v1, v2, v3] := by cases args; simp_all
  obtain ⟨rfl, rfl⟩ := trodVars_none hV
  obtain ⟨a0, rfl, rfl, rfl, w0⟩ := open_int Yba.underlying5 (hval 0 5 v0 rfl rfl) h0
  obtain ⟨a1, len1, cap1, rfl⟩ := okWide_slice Yba.underlying22 (hval 1 22 v1 rfl rfl)
  have k1 := h1
  have lt1 : ∀ x ∈ p1, x.block < W.heap.size := by obtain ⟨m, hm⟩ := k1; exact DataW.trod_lt m _ _ _ hm
  obtain ⟨z1, w1⟩ : ∃ zs, IsRow .u8 W a1 len1 cap1 zs := by
    obtain ⟨fuel, hf⟩ := h1
    rcases open_ints Yba.underlying22 Yba.underlying5 (by kernel_rfl) hf with ⟨hcs, _⟩ | ⟨x, l, c, zs, hcs, _, hl, hm, hz, _, hcell, hwz⟩
    · simp [Value.cells] at hcs
      obtain ⟨rfl, rfl, rfl⟩ := hcs
      exact ⟨[], .inl ⟨rfl, rfl, rfl, rfl⟩⟩
    · simp [Value.cells] at hcs
      obtain ⟨rfl, rfl, rfl⟩ := hcs
      exact ⟨zs, .inr ⟨_, rfl, hl, hm, by simpa using hz, hcell, hwz⟩⟩
  obtain ⟨a2, rfl, rfl, rfl, w2⟩ := open_int Yba.underlying23 (hval 2 23 v2 rfl rfl) h2
  have k3 := h3
  have lt3 : ∀ x ∈ p3, x.block < W.heap.size := by obtain ⟨m, hm⟩ := k3; exact DataW.trod_lt m _ _ _ hm
  obtain ⟨R, hF, rfl⟩ := open_set (hval 3 25 v3 rfl rfl) h3
  clear hA0 hval0
  have b0 := bounds_u8 w0
  have b2 := bounds_u16 w2
  refine (law_walk a0 a1 len1 cap1 z1 a2 R W b0.1 b0.2 w1 b2.1 b2.2 hF).mono fun e W' ⟨he, bel⟩ => ?_
  subst he
  exact ⟨_, rfl, _, _, _, [], _, [], hW', trodAll_mk1 (shut_bool Yba.underlying4 _), (trodAll_cons_mk (shut_int Yba.underlying5 w0) (trodAll_cons_mk (Below.trod laidOut (by kernel_rfl) (of_decide_eq_true (by kernel_rfl)) k1 bel lt1) (trodAll_cons_mk (shut_int Yba.underlying23 w2) (trodAll_cons_mk (Below.trod laidOut (by kernel_rfl) (of_decide_eq_true (by kernel_rfl)) k3 bel lt3) trodAll_mk0)))), rfl, bel.frame _, fun h => by cases h⟩

theorem over : Rows.lawS1386AClosureRow.holds Yba.pinned (OpenSpec.ofChange Rows.lawS1386AClosureSpec) :=
  OpenClaim.holds_of_wide 3 Yba.f3 rfl rfl rfl rfl rfl rfl rfl ⟨rfl, rfl, rfl, rfl, rfl⟩ rfl rfl rfl rfl rfl (by kernel_rfl) Yba.func3 (by kernel_rfl)
    (of_decide_eq_true (by kernel_rfl)) (by unfold Func.isWrapper; first | (rw [if_pos (by decide +kernel)]; kernel_rfl) | (rw [if_neg (by decide +kernel)]; exact ⟨rfl, rfl⟩))
    (fun os started H enc _ => lifted os started H enc)

/-- ████ THE STATEMENT ████ -/
theorem proved : Rows.LawS1386AClosureSaid := over
#print axioms proved
end Go.Proofs.Ybulkabri.lawS1386AClosure
