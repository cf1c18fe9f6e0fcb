/-
  The plain law: what addAround adds is what is to be expected. No Go in sight.
-/
import Derived.Test.YbulkabriExpect
namespace Go.Proofs.Ybulkabri
open Go.RowKit

/-! ### points -/
theorem pt_div {n j : Nat} (hn : 0 < n) : pt n j / (n + 2) = j / n + 1 := by
  have h := Nat.mod_lt j hn
  unfold pt
  rw [Nat.add_assoc, Nat.add_comm, Nat.add_mul_div_right _ _ (by omega), Nat.div_eq_of_lt (by omega)]
  omega
theorem pt_mod {n j : Nat} (hn : 0 < n) : pt n j % (n + 2) = j % n + 1 := by
  have h := Nat.mod_lt j hn
  unfold pt
  rw [Nat.add_assoc, Nat.add_comm, Nat.add_mul_mod_self_right, Nat.mod_eq_of_lt (by omega)]
def idx (n u : Nat) : Nat := (u / (n + 2) - 1) * n + (u % (n + 2) - 1)
theorem idx_pt {n j : Nat} (hn : 0 < n) : idx n (pt n j) = j := by
  unfold idx
  rw [pt_div hn, pt_mod hn, Nat.add_sub_cancel, Nat.add_sub_cancel, Nat.mul_comm]
  exact Nat.div_add_mod j n
theorem pt_inj {n i j : Nat} (hn : 0 < n) (h : pt n i = pt n j) : i = j := by
  rw [← idx_pt hn (j := i), h, idx_pt hn]

/-! ### the ranks of the points of one key -/
section
variable (len : Nat) (zs : List Int) (k : Int)
def cnt : Nat → Nat
  | 0 => 0
  | T + 1 => cnt T + if keyAt len zs T = k then 1 else 0
end
section
variable {len : Nat} {zs : List Int} {k : Int}
theorem cnt_yes {T : Nat} (h : keyAt len zs T = k) : cnt len zs k (T + 1) = cnt len zs k T + 1 := by simp [cnt, h]
theorem cnt_no {T : Nat} (h : keyAt len zs T ≠ k) : cnt len zs k (T + 1) = cnt len zs k T := by simp [cnt, h]
theorem cnt_mono {a : Nat} : ∀ {b : Nat}, a ≤ b → cnt len zs k a ≤ cnt len zs k b
  | 0, h => by obtain rfl : a = 0 := by omega
               exact Nat.le_refl _
  | b + 1, h => by
    rcases Nat.lt_or_ge b a with hl | hl
    · obtain rfl : a = b + 1 := by omega
      exact Nat.le_refl _
    · have := cnt_mono (a := a) (b := b) hl
      simp only [cnt]; omega
theorem cnt_lt {a b : Nat} (h : a < b) (hk : keyAt len zs a = k) : cnt len zs k a < cnt len zs k b := by
  have := cnt_mono (len := len) (zs := zs) (k := k) (show a + 1 ≤ b from h)
  rw [cnt_yes hk] at this
  omega
theorem rank_inj {a b : Nat} (ha : keyAt len zs a = k) (hb : keyAt len zs b = k) (h : cnt len zs k a = cnt len zs k b) : a = b := by
  rcases Nat.lt_trichotomy a b with hl | rfl | hl
  · have := cnt_lt hl ha; omega
  · rfl
  · have := cnt_lt hl hb; omega
end

/-! ### the links -/
structure LInv (n len : Nat) (zs : List Int) (k : Nat) (nx0 : Nat → Nat) (T : Nat) (jf jp : Nat) (nx' : Nat → Nat) : Prop where
  f1 : jf < T ∧ keyAt len zs jf = k ∧ cnt len zs k jf = 0
  p1 : jp < T ∧ keyAt len zs jp = k ∧ cnt len zs k jp + 1 = cnt len zs k T
  step : ∀ j, j < T → keyAt len zs j = k → cnt len zs k j + 1 < cnt len zs k T → ∃ j', j' < T ∧ keyAt len zs j' = k ∧ cnt len zs k j' = cnt len zs k j + 1 ∧ nx' (pt n j) = pt n j'
  out : ∀ u, (∀ j, j < T → keyAt len zs j = k → u ≠ pt n j) → nx' u = nx0 u
theorem linkT_inv {n : Nat} (hn : 0 < n) (len : Nat) (zs : List Int) (k : Nat) (nx0 : Nat → Nat) : ∀ T,
    ((linkT n len zs k nx0 T).1 = none ∧ cnt len zs k T = 0 ∧ (linkT n len zs k nx0 T).2 = nx0) ∨
    ∃ jf jp, (linkT n len zs k nx0 T).1 = some (pt n jf, pt n jp) ∧ LInv n len zs k nx0 T jf jp (linkT n len zs k nx0 T).2
  | 0 => .inl ⟨rfl, rfl, rfl⟩
  | T + 1 => by
    have ih := linkT_inv hn len zs k nx0 T
    simp only [linkT]
    by_cases hk : keyAt len zs T = k
    · rw [if_pos hk]
      have hc := cnt_yes hk
      rcases ih with ⟨h1, h2, h3⟩ | ⟨jf, jp, h1, hi⟩
      · refine .inr ⟨T, T, ?_, ?_⟩
        · rw [h1]
        · rw [h1]
          refine ⟨⟨by omega, hk, h2⟩, ⟨by omega, hk, hc.symm⟩, fun j _ _ h => by omega, fun u _ => by simp only [h3]⟩
      · refine .inr ⟨jf, T, ?_, ?_⟩
        · rw [h1]
        · rw [h1]
          refine ⟨⟨by have := hi.f1.1; omega, hi.f1.2⟩, ⟨by omega, hk, hc.symm⟩, fun j hj hkj hlt => ?_, fun u hu => ?_⟩
          · have hjT : j < T := by
              rcases Nat.lt_or_ge j T with h | h
              · exact h
              · obtain rfl : j = T := by omega
                omega
            by_cases e : cnt len zs k j + 1 < cnt len zs k T
            · obtain ⟨j', a, b, c, d⟩ := hi.step j hjT hkj e
              refine ⟨j', by omega, b, c, ?_⟩
              have : pt n j ≠ pt n jp := fun e2 => by
                have e3 := pt_inj hn e2
                subst e3
                have := hi.p1.2.2
                omega
              simp only [this, if_false]
              exact d
            · have e2 : cnt len zs k j = cnt len zs k jp := by have := hi.p1.2.2; omega
              have e3 := rank_inj hkj hi.p1.2.1 e2
              subst e3
              exact ⟨T, by omega, hk, by have := hi.p1.2.2; omega, by simp⟩
          · have : u ≠ pt n jp := hu jp (by have := hi.p1.1; omega) hi.p1.2.1
            simp only [this, if_false]
            exact hi.out u fun j hj => hu j (by omega)
    · rw [if_neg hk]
      have hc := cnt_no hk
      rcases ih with ⟨h1, h2, h3⟩ | ⟨jf, jp, h1, hi⟩
      · exact .inl ⟨h1, by rw [hc]; exact h2, h3⟩
      · refine .inr ⟨jf, jp, h1, ⟨⟨by have := hi.f1.1; omega, hi.f1.2⟩, ⟨by have := hi.p1.1; omega, hi.p1.2.1, by rw [hc]; exact hi.p1.2.2⟩, fun j hj hkj hlt => ?_, fun u hu => hi.out u fun j hj => hu j (by omega)⟩⟩
        have hjT : j < T := by
          rcases Nat.lt_or_ge j T with h | h
          · exact h
          · obtain rfl : j = T := by omega
            exact absurd hkj hk
        obtain ⟨j', a, b, c, d⟩ := hi.step j hjT hkj (by omega)
        exact ⟨j', by omega, b, c, d⟩

def RInv (n len : Nat) (zs : List Int) (k : Int) (nx : Nat → Nat) : Prop :=
  ∀ j, j < n * n → keyAt len zs j = k → ∃ j', j' < n * n ∧ keyAt len zs j' = k ∧ cnt len zs k j' = (cnt len zs k j + 1) % cnt len zs k (n * n) ∧ nx (pt n j) = pt n j'
theorem ringK_inv {n : Nat} (hn : 0 < n) (len : Nat) (zs : List Int) (k : Nat) (nx0 : Nat → Nat) :
    RInv n len zs k (ringK n len zs k nx0) ∧ ∀ u, (∀ j, j < n * n → keyAt len zs j = k → u ≠ pt n j) → ringK n len zs k nx0 u = nx0 u := by
  have hi := linkT_inv hn len zs k nx0 (n * n)
  unfold ringK
  rcases hi with ⟨h1, h2, h3⟩ | ⟨jf, jp, h1, hi⟩
  · simp only [h1]
    refine ⟨fun j hj hk => ?_, fun u _ => by rw [h3]⟩
    have := cnt_lt hj hk
    omega
  · simp only [h1]
    refine ⟨fun j hj hk => ?_, fun u hu => ?_⟩
    · have hlt := cnt_lt hj hk
      have hp := hi.p1.2.2
      by_cases e : cnt len zs k j + 1 < cnt len zs k (n * n)
      · obtain ⟨j', a, b, c, d⟩ := hi.step j hj hk e
        refine ⟨j', a, b, by rw [Nat.mod_eq_of_lt e]; exact c, ?_⟩
        have : pt n j ≠ pt n jp := fun e2 => by
          have e3 := pt_inj hn e2
          subst e3
          omega
        simp only [this, if_false]
        exact d
      · have e3 := rank_inj hk hi.p1.2.1 (by omega)
        subst e3
        refine ⟨jf, hi.f1.1, hi.f1.2.1, ?_, by simp⟩
        rw [hi.f1.2.2, hp, Nat.mod_self]
    · have : u ≠ pt n jp := hu jp hi.p1.1 hi.p1.2.1
      simp only [this, if_false]
      exact hi.out u hu
theorem links_inv {n : Nat} (hn : 0 < n) (len : Nat) (zs : List Int) : ∀ K k : Nat, k < K → RInv n len zs k (links n len zs K)
  | 0, k, h => by omega
  | K + 1, k, h => by
    have hr := ringK_inv hn len zs K (links n len zs K)
    by_cases e : k = K
    · subst e; exact hr.1
    · have ih := links_inv hn len zs K k (by omega)
      intro j hj hk
      obtain ⟨j', a, b, c, d⟩ := ih j hj hk
      refine ⟨j', a, b, c, ?_⟩
      rw [← d]
      refine hr.2 _ fun j2 hj2 hk2 e2 => ?_
      have := pt_inj hn e2
      subst this
      rw [hk] at hk2
      omega

/-! ### the rings -/
theorem orb_at {n len : Nat} {zs : List Int} {k : Int} {nx : Nat → Nat} (h : RInv n len zs k nx) {j0 : Nat} (hj : j0 < n * n) (hk : keyAt len zs j0 = k) : ∀ t,
    ∃ j, j < n * n ∧ keyAt len zs j = k ∧ cnt len zs k j = (cnt len zs k j0 + t) % cnt len zs k (n * n) ∧ orb nx (pt n j0) t = pt n j
  | 0 => ⟨j0, hj, hk, by rw [Nat.add_zero, Nat.mod_eq_of_lt (cnt_lt hj hk)], rfl⟩
  | t + 1 => by
    obtain ⟨j, a, b, c, d⟩ := orb_at h hj hk t
    obtain ⟨j', a', b', c', d'⟩ := h j a b
    refine ⟨j', a', b', ?_, by rw [orb, d]; exact d'⟩
    rw [c', c, Nat.mod_add_mod, Nat.add_assoc]
theorem orb_facts {n len : Nat} {zs : List Int} {k : Int} {nx : Nat → Nat} (hn : 0 < n) (h : RInv n len zs k nx) {j0 : Nat} (hj : j0 < n * n) (hk : keyAt len zs j0 = k) :
    1 ≤ cnt len zs k (n * n) ∧ orb nx (pt n j0) (cnt len zs k (n * n)) = pt n j0 ∧ (∀ t, 0 < t → t < cnt len zs k (n * n) → orb nx (pt n j0) t ≠ pt n j0) ∧
    (∀ t, ∃ j, j < n * n ∧ keyAt len zs j = k ∧ orb nx (pt n j0) t = pt n j) ∧ ∀ j, j < n * n → keyAt len zs j = k → ∃ t, t < cnt len zs k (n * n) ∧ orb nx (pt n j0) t = pt n j := by
  have h0 := cnt_lt hj hk
  refine ⟨by omega, ?_, fun t ht htP e => ?_, fun t => ?_, fun j hj' hk' => ?_⟩
  · obtain ⟨j, a, b, c, d⟩ := orb_at h hj hk (cnt len zs k (n * n))
    rw [Nat.add_mod_right, Nat.mod_eq_of_lt h0] at c
    rw [d, rank_inj b hk c]
  · obtain ⟨j, a, b, c, d⟩ := orb_at h hj hk t
    rw [d] at e
    have := pt_inj hn e
    subst this
    generalize cnt len zs k j = A at *
    generalize cnt len zs k (n * n) = P at *
    rcases Nat.lt_or_ge (A + t) P with hl | hl
    · rw [Nat.mod_eq_of_lt hl] at c; omega
    · rw [Nat.mod_eq_sub_mod hl, Nat.mod_eq_of_lt (by omega)] at c; omega
  · obtain ⟨j, a, b, _, d⟩ := orb_at h hj hk t
    exact ⟨j, a, b, d⟩
  · have h1 := cnt_lt hj' hk'
    obtain ⟨t, htP, ht⟩ : ∃ t, t < cnt len zs k (n * n) ∧ (cnt len zs k j0 + t) % cnt len zs k (n * n) = cnt len zs k j := by
      generalize cnt len zs k j0 = A at *
      generalize cnt len zs k j = B at *
      generalize cnt len zs k (n * n) = P at *
      rcases Nat.lt_or_ge B A with hl | hl
      · refine ⟨B + P - A, by omega, ?_⟩
        rw [show A + (B + P - A) = B + P by omega, Nat.add_mod_right, Nat.mod_eq_of_lt h1]
      · refine ⟨B - A, by omega, ?_⟩
        rw [show A + (B - A) = B by omega, Nat.mod_eq_of_lt h1]
    obtain ⟨j2, a, b, c, d⟩ := orb_at h hj hk t
    refine ⟨t, htP, ?_⟩
    rw [d]
    congr 1
    exact rank_inj b hk' (by rw [c, ht])

/-! ### the colours -/
theorem colT_at {n : Nat} (hn : 0 < n) (len : Nat) (zs : List Int) : ∀ T j, j < T → colT n len zs T (pt n j) = cellAt len zs j % 3
  | 0, j, h => by omega
  | T + 1, j, h => by
    simp only [colT]
    by_cases e : j = T
    · subst e; simp
    · rw [if_neg (fun e2 => e (pt_inj hn e2))]
      exact colT_at hn len zs T j (by omega)
theorem colT_off {n len : Nat} {zs : List Int} {u : Nat} : ∀ T, (∀ j, j < T → u ≠ pt n j) → colT n len zs T u = 3
  | 0, _ => rfl
  | T + 1, h => by
    simp only [colT]
    rw [if_neg (h T (by omega))]
    exact colT_off T fun j hj => h j (by omega)
theorem colT_bd (n len : Nat) (zs : List Int) (u : Nat) : ∀ T, 0 ≤ colT n len zs T u ∧ colT n len zs T u ≤ 3
  | 0 => by simp [colT]
  | T + 1 => by
    have := colT_bd n len zs u T
    simp only [colT]
    split <;> omega
theorem stone_key {n : Nat} (hn : 0 < n) (len : Nat) (zs : List Int) {j : Nat} (hj : j < n * n) : isSt (colT n len zs (n * n) (pt n j)) = decide (0 ≤ keyAt len zs j) := by
  rw [colT_at hn len zs _ j hj]
  unfold isSt keyAt keyOfCell
  generalize cellAt len zs j = d
  simp only [decide_eq_decide]
  split <;> constructor <;> intro h <;> omega

/-! ### the sets -/
theorem mem_addOrb {nx S : Nat → Nat} {u x : Nat} : ∀ t, mem (addOrb nx S u t) x = true ↔ mem S x = true ∨ ∃ i, i < t ∧ x = orb nx u i
  | 0 => by simp [addOrb]
  | t + 1 => by
    simp only [addOrb, mem_add, Bool.or_eq_true, mem_addOrb t, decide_eq_true_eq]
    constructor
    · rintro ((h | ⟨i, hi, e⟩) | e)
      · exact .inl h
      · exact .inr ⟨i, by omega, e⟩
      · exact .inr ⟨t, by omega, e⟩
    · rintro (h | ⟨i, hi, e⟩)
      · exact .inl (.inl h)
      · by_cases e2 : i = t
        · subst e2; exact .inr e
        · exact .inl (.inr ⟨i, by omega, e⟩)
theorem mem_expK {n len : Nat} {zs : List Int} {k : Int} {E : Nat → Nat} {x : Nat} : ∀ T, mem (expK n len zs k E T) x = true ↔ mem E x = true ∨ ∃ j, j < T ∧ keyAt len zs j = k ∧ x = pt n j
  | 0 => by simp [expK]
  | T + 1 => by
    have ih := mem_expK (n := n) (len := len) (zs := zs) (k := k) (E := E) (x := x) T
    simp only [expK]
    by_cases hk : keyAt len zs T = k
    · rw [if_pos hk, mem_add, Bool.or_eq_true, ih, decide_eq_true_eq]
      constructor
      · rintro ((h | ⟨i, hi, hki, e⟩) | e)
        · exact .inl h
        · exact .inr ⟨i, by omega, hki, e⟩
        · exact .inr ⟨T, by omega, hk, e⟩
      · rintro (h | ⟨i, hi, hki, e⟩)
        · exact .inl (.inl h)
        · by_cases e2 : i = T
          · subst e2; exact .inr e
          · exact .inl (.inr ⟨i, by omega, hki, e⟩)
    · rw [if_neg hk, ih]
      constructor
      · rintro (h | ⟨i, hi, hki, e⟩)
        · exact .inl h
        · exact .inr ⟨i, by omega, hki, e⟩
      · rintro (h | ⟨i, hi, hki, e⟩)
        · exact .inl h
        · by_cases e2 : i = T
          · subst e2; exact absurd hki hk
          · exact .inr ⟨i, by omega, hki, e⟩

/-! ### the neighbours -/
theorem in_board {n x y : Nat} (hx : x < n) (hy : y < n) : x * n + y < n * n := by
  have : (x + 1) * n ≤ n * n := Nat.mul_le_mul_right _ hx
  rw [Nat.add_mul] at this
  omega
theorem nb_ways {n r c i : Nat} (hr : r < n) (hc : c < n) (hi : i < 4) :
    (∃ j, j < n * n ∧ nbp n r c i = some j ∧ nbv (n + 2) (pt n (r * n + c)) i = pt n j) ∨ (nbp n r c i = none ∧ ∀ j, j < n * n → nbv (n + 2) (pt n (r * n + c)) i ≠ pt n j) := by
  have hn : 0 < n := by omega
  rw [pt_at r hc]
  have : i = 0 ∨ i = 1 ∨ i = 2 ∨ i = 3 := by omega
  rcases this with rfl | rfl | rfl | rfl
  · by_cases h : 0 < c
    · refine .inl ⟨r * n + (c - 1), in_board hr (by omega), ?_, ?_⟩
      · simp only [nbp, h, if_true]; congr 1; omega
      · rw [pt_at r (by omega)]; simp only [nbv]; omega
    · refine .inr ⟨by simp [nbp, h], fun j _ e => ?_⟩
      have e2 := congrArg (· % (n + 2)) e
      simp only [nbv] at e2
      rw [pt_mod hn, show (r + 1) * (n + 2) + c + 1 - 1 = 0 + (r + 1) * (n + 2) by omega, Nat.add_mul_mod_self_right] at e2
      simp at e2
  · by_cases h : c + 1 < n
    · refine .inl ⟨r * n + (c + 1), in_board hr h, ?_, ?_⟩
      · simp only [nbp, h, if_true]; congr 1
      · rw [pt_at r h]; simp only [nbv]; omega
    · refine .inr ⟨by simp [nbp, h], fun j _ e => ?_⟩
      have e2 := congrArg (· % (n + 2)) e
      simp only [nbv] at e2
      rw [pt_mod hn, show (r + 1) * (n + 2) + c + 1 + 1 = (n + 1) + (r + 1) * (n + 2) by omega, Nat.add_mul_mod_self_right, Nat.mod_eq_of_lt (by omega)] at e2
      have := Nat.mod_lt j hn
      omega
  · by_cases h : 0 < r
    · refine .inl ⟨(r - 1) * n + c, in_board (by omega) hc, ?_, ?_⟩
      · simp only [nbp, h, if_true]
      · rw [pt_at (r - 1) hc]
        simp only [nbv]
        have e : (r + 1) * (n + 2) = (r - 1 + 1) * (n + 2) + (n + 2) := by rw [show r + 1 = (r - 1 + 1) + 1 by omega, Nat.add_mul, Nat.one_mul]
        omega
    · obtain rfl : r = 0 := by omega
      refine .inr ⟨by simp [nbp], fun j _ e => ?_⟩
      simp only [nbv] at e
      have e2 : (c + 1) / (n + 2) = pt n j / (n + 2) := by rw [← e]; congr 1; omega
      rw [pt_div hn, Nat.div_eq_of_lt (show c + 1 < n + 2 by omega)] at e2
      exact absurd e2.symm (Nat.succ_ne_zero _)
  · by_cases h : r + 1 < n
    · refine .inl ⟨(r + 1) * n + c, in_board h hc, ?_, ?_⟩
      · simp only [nbp, h, if_true]
      · rw [pt_at (r + 1) hc]
        simp only [nbv]
        have e : (r + 1 + 1) * (n + 2) = (r + 1) * (n + 2) + (n + 2) := by rw [Nat.add_mul (r + 1), Nat.one_mul]
        omega
    · obtain rfl : n = r + 1 := by omega
      refine .inr ⟨by simp [nbp], fun j hj e => ?_⟩
      have e2 := congrArg (· / (r + 1 + 2)) e
      simp only [nbv] at e2
      rw [pt_div hn, show (r + 1) * (r + 1 + 2) + c + 1 + (r + 1 + 2) = (c + 1) + (r + 2) * (r + 1 + 2) by rw [show r + 2 = (r + 1) + 1 by omega, Nat.add_mul (r + 1) 1, Nat.one_mul]; omega, Nat.add_mul_div_right _ _ (by omega), Nat.div_eq_of_lt (by omega)] at e2
      have := Nat.div_lt_of_lt_mul hj
      omega

/-! ### the law -/
def per (n len : Nat) (zs : List Int) (u : Nat) : Nat := cnt len zs (keyAt len zs (idx n u)) (n * n)
theorem ring_of {n : Nat} (hn : 0 < n) (len : Nat) (zs : List Int) {j : Nat} (h0 : 0 ≤ keyAt len zs j) : RInv n len zs (keyAt len zs j) (links n len zs 8) := by
  have h7 := (key_bd (cellAt len zs j)).2
  have h7' : keyAt len zs j ≤ 7 := h7
  have e : keyAt len zs j = ((keyAt len zs j).toNat : Int) := by omega
  rw [e]
  exact links_inv hn len zs 8 _ (by omega)
theorem rings_ok {n s m : Nat} (hn : 0 < n) (hs : (n : Int) + 2 = s) (hm : (s : Int) * s = m) (len : Nat) (zs : List Int) : Rings m (links n len zs 8) (per n len zs) (colT n len zs (n * n)) := by
  intro u hu hst
  by_cases h : ∃ j, j < n * n ∧ u = pt n j
  · obtain ⟨j, hj, rfl⟩ := h
    rw [stone_key hn len zs hj, decide_eq_true_eq] at hst
    have hf := orb_facts hn (ring_of hn len zs hst) hj rfl
    unfold per
    rw [idx_pt hn]
    refine ⟨hf.1, hf.2.1, hf.2.2.1, fun t _ => ?_⟩
    obtain ⟨j', a, _, e⟩ := hf.2.2.2.1 t
    rw [e]
    exact pt_lt hs hm a
  · rw [colT_off (n * n) fun j hj e => h ⟨j, hj, e⟩] at hst
    cases hst

theorem agree {n : Nat} (len : Nat) (zs : List Int) {r c : Nat} (hr : r < n) (hc : c < n) (R : Nat → Nat) : ∀ i, i ≤ 4 →
    (∀ x, mem (aroundT (links n len zs 8) (per n len zs) (colT n len zs (n * n)) (n + 2) (pt n (r * n + c)) R i) x = true ↔ mem (expT n len zs r c R i) x = true) ∧
    (∀ x, mem R x = true → mem (expT n len zs r c R i) x = true) ∧
    ∀ x, mem (expT n len zs r c R i) x = true → mem R x = true ∨ ∃ j, j < n * n ∧ x = pt n j ∧ ∀ j', j' < n * n → keyAt len zs j' = keyAt len zs j → mem (expT n len zs r c R i) (pt n j') = true
  | 0, _ => ⟨fun _ => Iff.rfl, fun _ h => h, fun _ h => .inl h⟩
  | i + 1, hi => by
    have hn : 0 < n := by omega
    obtain ⟨h1, h2, h3⟩ := agree len zs hr hc R i (by omega)
    simp only [aroundT, expT]
    generalize aroundT (links n len zs 8) (per n len zs) (colT n len zs (n * n)) (n + 2) (pt n (r * n + c)) R i = G at *
    generalize expT n len zs r c R i = E at *
    rcases nb_ways hr hc (show i < 4 by omega) with ⟨j, hj, hp, hv⟩ | ⟨hp, hv⟩
    · rw [hp, hv]
      unfold stepS
      simp only [expStep]
      rw [stone_key hn len zs hj]
      by_cases hk : keyAt len zs j < 0
      · rw [if_neg (by simp; omega), if_pos (.inl hk)]
        exact ⟨h1, h2, h3⟩
      · have hk0 : 0 ≤ keyAt len zs j := by omega
        cases hR : mem R (pt n j) with
        | true =>
          rw [if_neg (by rw [(h1 _).2 (h2 _ hR)]; simp), if_pos (.inr rfl)]
          exact ⟨h1, h2, h3⟩
        | false =>
          rw [if_neg (show ¬ (keyAt len zs j < 0 ∨ false = true) by simp; omega)]
          have hmk := fun x => mem_expK (n := n) (len := len) (zs := zs) (k := keyAt len zs j) (E := E) (x := x) (n * n)
          refine ⟨fun x => ?_, fun x hx => (hmk x).2 (.inl (h2 x hx)), fun x hx => ?_⟩
          · cases hG : mem G (pt n j) with
            | true =>
              rw [if_neg (by simp), h1, hmk]
              refine ⟨.inl, fun h => ?_⟩
              rcases h with h | ⟨j', hj', hkj', rfl⟩
              · exact h
              · rcases h3 _ ((h1 _).1 hG) with h | ⟨j2, hj2, e, hall⟩
                · rw [hR] at h; cases h
                · have := pt_inj hn e
                  subst this
                  exact hall j' hj' hkj'
            | false =>
              rw [if_pos (by simpa using hk0), mem_addOrb, hmk, h1]
              have hf := orb_facts hn (ring_of hn len zs hk0) hj rfl
              unfold per
              rw [idx_pt hn]
              constructor
              · rintro (h | ⟨t, _, rfl⟩)
                · exact .inl h
                · obtain ⟨j', a, b, e⟩ := hf.2.2.2.1 t
                  exact .inr ⟨j', a, b, e⟩
              · rintro (h | ⟨j', a, b, rfl⟩)
                · exact .inl h
                · obtain ⟨t, ht, e⟩ := hf.2.2.2.2 j' a b
                  exact .inr ⟨t, ht, e.symm⟩
          · rcases (hmk x).1 hx with h | ⟨j', a, b, rfl⟩
            · rcases h3 x h with h | ⟨j2, hj2, e, hall⟩
              · exact .inl h
              · exact .inr ⟨j2, hj2, e, fun j' a b => (hmk _).2 (.inl (hall j' a b))⟩
            · exact .inr ⟨j', a, rfl, fun j'' a' b' => (hmk _).2 (.inr ⟨j'', a', by rw [b', b], rfl⟩)⟩
    · rw [hp]
      have hcol := colT_off (len := len) (zs := zs) (n * n) hv
      unfold stepS
      rw [hcol, if_neg (by simp [isSt])]
      exact ⟨h1, h2, h3⟩

/-- The two sets are one. -/
theorem same_words {n : Nat} (len : Nat) (zs : List Int) {r c : Nat} (hr : r < n) (hc : c < n) {R : Nat → Nat} (hF : Fits R) :
    words (addS (aroundT (links n len zs 8) (per n len zs) (colT n len zs (n * n)) (n + 2) (pt n (r * n + c)) R 4) (pt n (r * n + c))) = words (addS (expT n len zs r c R 4) (pt n (r * n + c))) := by
  have h := set_ext (S := addS (aroundT (links n len zs 8) (per n len zs) (colT n len zs (n * n)) (n + 2) (pt n (r * n + c)) R 4) (pt n (r * n + c))) (T := addS (expT n len zs r c R 4) (pt n (r * n + c))) ((around_fits hF 4).add _) ((expT_fits hF 4).add _) (fun u _ => by
    rw [mem_add, mem_add]
    congr 1
    exact Bool.eq_iff_iff.2 ((agree len zs hr hc R 4 (Nat.le_refl _)).1 u))
  unfold words
  congr 1
  apply List.map_congr_left
  intro i hi
  rw [h i (by simpa using hi)]
end Go.Proofs.Ybulkabri
