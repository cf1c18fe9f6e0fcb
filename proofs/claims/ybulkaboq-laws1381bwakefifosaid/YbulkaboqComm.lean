/-
  A COMMUNICATION IN THE KIT's WALK ('Code.wp'): one goroutine, a case that can proceed. The kit's 'wpList' says False at a communication; 'Code.wp' itself is stated over the machine's steps, so a region whose operations are l1, then a communication, then l2 has a law of its own here.
-/
import Derived.Conc.LoneCalls
import Derived.Conc.LoneSelectN
import Derived.WalkKit
namespace Go.Proofs.Ybulkaboq
open Go.Conc Go.RowKit

/-- What stands behind the operations 'l' of a region, more operations ('rest') being still to come. -/
def Behind (P : Program) (m : Machine) (ops : Array Oper) (rest : List Nat) (b : Frame) (k : List Item) (cs : List Frame) (e : Exit) (a : Act) (w : World) : Prop :=
  match e with
  | .normal => Steps P m (lone (b.at a (.inRegion ops rest :: k)) cs w)
  | e => Arrives P m b k cs e a w

theorem Behind.of_steps {P : Program} {m m₁ : Machine} {ops : Array Oper} {rest : List Nat} {b : Frame} {k : List Item} {cs : List Frame} {e : Exit} {a : Act} {w : World}
    (h : Steps P m m₁) (h' : Behind P m₁ ops rest b k cs e a w) : Behind P m ops rest b k cs e a w := by
  cases e with
  | normal => exact Steps.trans h h'
  | exit id => exact Arrives.of_steps (b := b) (k := k) (cs := cs) (e := .exit id) h h'
  | goto l => exact Arrives.of_steps (b := b) (k := k) (cs := cs) (e := .goto l) h h'
  | ret => exact Arrives.of_steps (b := b) (k := k) (cs := cs) (e := .ret) h h'
  | panic chain => exact Arrives.of_steps (b := b) (k := k) (cs := cs) (e := .panic chain) h h'
  | outgrown => exact Arrives.of_steps (b := b) (k := k) (cs := cs) (e := .outgrown) (a := a) (w := w) h h'

theorem ops_behind {P : Program} {ops : Array Oper} {Q : Exit → Act → World → Prop} (l : List Nat) :
    ∀ (a : Act) (w : World), wpOps P ops Q l a w → ∀ (rest : List Nat) (b : Frame) (k : List Item) (cs : List Frame),
      ∃ e a' w', Q e a' w' ∧ Behind P (lone (b.at a (.inRegion ops (l ++ rest) :: k)) cs w) ops rest b k cs e a' w' := by
  induction l with
  | nil => exact fun a w h rest b k cs => ⟨.normal, a, w, h, Steps.refl _ _⟩
  | cons i l ih =>
    intro a w h rest b k cs
    simp only [wpOps] at h
    simp only [List.cons_append]
    cases ho : ops[i]? with
    | none =>
      simp only [ho] at h
      obtain ⟨e, a', w', hq, harr⟩ := ih a w h rest b k cs
      have hs := step_op_skip (P := P) (b := b) (a := a) (k := k) (cs := cs) (w := w) (ops := ops) (i := i) (rest := l ++ rest) (by simp [ho])
      simp only [ho, Option.bind_none, Act.put] at hs
      exact ⟨e, a', w', hq, .of_steps (.one hs) harr⟩
    | some o =>
      simp only [ho] at h
      by_cases hw : Region.wanted o (yielded ops a.tmps) = true
      · simp only [hw, if_true] at h
        rcases h with h | ⟨hasks, a₀, w₀, hq⟩
        case inr =>
          by_cases hk : b.kind = .early
          · exact ⟨.outgrown, a₀, w₀, hq, .inl hk⟩
          · exact ⟨.outgrown, a₀, w₀, hq, .inr (asks_outgrown ho hw hk hasks)⟩
        simp only [Oper.wp, Oper.upon] at h
        have hg := stepG_op (P := P) (b := b) (k := k) (cs := cs) (w := w) (rest := l ++ rest) ho hw
        have hfin : ∀ v, (b.at a (.inRegion ops (i :: (l ++ rest)) :: k)).finish v = b.at (a.put o.dst v) (.inRegion ops (l ++ rest) :: k) := by
          intro v; rw [Frame.finish_at, ho]; rfl
        split at h
        · rename_i v w' hr
          obtain ⟨e, a', w'', hq, harr⟩ := ih _ _ h rest b k cs
          refine ⟨e, a', w'', hq, .of_steps (.one (step_lone_go ?_)) harr⟩
          rw [hg, ← hfin]; simp [stepG.apply, hr]
        · rename_i w' hr
          obtain ⟨e, a', w'', hq, harr⟩ := ih _ _ h rest b k cs
          refine ⟨e, a', w'', hq, .of_steps (.one (step_lone_go ?_)) harr⟩
          rw [hg, ← hfin]; simp [stepG.apply, hr]
        · rename_i d w' hr
          obtain ⟨e, a', w'', hq, harr⟩ := ih _ _ h rest b k cs
          refine ⟨e, a', w'', hq, .of_steps (.one (step_lone_go ?_)) harr⟩
          have hd : ({ b.at a (.inRegion ops (i :: (l ++ rest)) :: k) with defers := d :: a.defers } : Frame).finish undef =
              b.at ({ a with defers := d :: a.defers }.put o.dst undef) (.inRegion ops (l ++ rest) :: k) := by
            have := Frame.finish_at b { a with defers := d :: a.defers } ops i (l ++ rest) k undef
            rw [ho] at this; exact this
          rw [hg]; simp only [stepG.apply, Sem.runT_eq, hr, GStep.bare_after]
          exact congrArg (fun fr => GStep.go { frame := fr, callers := cs, status := .running, dying := none } w') hd
        · rename_i f args w' hr
          obtain ⟨e, w'', fr, hR, hsteps, _, hleave⟩ := h (b.at a (.inRegion ops (i :: (l ++ rest)) :: k) :: cs)
          have henter : step P (lone (b.at a (.inRegion ops (i :: (l ++ rest)) :: k)) cs w) =
              .next (lone (Frame.enter P f args .normal) (b.at a (.inRegion ops (i :: (l ++ rest)) :: k) :: cs) w') :=
            step_lone_go (by rw [hg]; simp [stepG.apply, hr, Frame.at])
          cases e with
          | returned v =>
            obtain ⟨e, a', w₃, hq, harr⟩ := ih _ _ hR rest b k cs
            refine ⟨e, a', w₃, hq, .of_steps (.head henter (Steps.trans hsteps (.one ?_))) harr⟩
            rw [← hfin]; exact step_leave_returned hleave
          | panicked chain =>
            refine ⟨.panic chain, a, w'', hR, .inRegion ops (i :: (l ++ rest)) :: k, .head henter (Steps.trans hsteps (.one ?_))⟩
            rw [← Frame.raise_at]; exact step_leave_panicked hleave
          | outgrown =>
            obtain ⟨a₀, w₀, hq⟩ := hR
            exact ⟨.outgrown, a₀, w₀, hq, .inr (Outgrown.of_steps (.one henter) hsteps)⟩
        · rename_i row args w' hr
          obtain ⟨v, w'', hR, hsteps⟩ := h (b.at a (.inRegion ops (i :: (l ++ rest)) :: k)) cs
          have henter : step P (lone (b.at a (.inRegion ops (i :: (l ++ rest)) :: k)) cs w) =
              .next (lone (Frame.ofRow P row args .normal) (b.at a (.inRegion ops (i :: (l ++ rest)) :: k) :: cs) w') :=
            step_lone_go (by rw [hg]; simp [stepG.apply, hr, Frame.at])
          obtain ⟨e, a', w₃, hq, harr⟩ := ih _ _ hR rest b k cs
          refine ⟨e, a', w₃, hq, .of_steps (.head henter ?_) harr⟩
          rw [← hfin]; exact hsteps
        · rename_i v w' hr
          refine ⟨_, a, w', h, .inRegion ops (i :: (l ++ rest)) :: k, .one (step_lone_go ?_)⟩
          rw [hg, ← Frame.raise_at]; simp [stepG.apply, hr]
        · exact h.elim
      · simp only [hw, if_false, Bool.false_eq_true] at h
        obtain ⟨e, a', w', hq, harr⟩ := ih _ _ h rest b k cs
        have hs := step_op_skip (P := P) (b := b) (a := a) (k := k) (cs := cs) (w := w) (ops := ops) (i := i) (rest := l ++ rest)
          (by simp [ho]; simpa using hw)
        simp only [ho, Option.bind_some] at hs
        exact ⟨e, a', w', hq, .of_steps (.one hs) harr⟩

/-- From 'a', 'w' the communication 'o' hands over v and leaves w': one step of the machine of one. -/
def CommTo (P : Program) (o : Oper) (a : Act) (w : World) (v : Value) (w' : World) : Prop :=
  ∀ (ops : Array Oper) (i : Nat) (rest : List Nat) (b : Frame) (k : List Item) (cs : List Frame), ops[i]? = some o → Region.wanted o (yielded ops a.tmps) = true →
    step P (lone (b.at a (.inRegion ops (i :: rest) :: k)) cs w) = .next (lone (b.at (a.put o.dst v) (.inRegion ops rest :: k)) cs w')

theorem step_comm_any {P : Program} {b : Frame} {a : Act} {k : List Item} {cs : List Frame} {w w' : World} {ops : Array Oper} {i : Nat} {rest : List Nat} {o : Oper} {cases : Array CommCase} {blocking : Bool} {shape : CommShape}
    (ho : ops[i]? = some o) (hw : Region.wanted o (yielded ops a.tmps) = true) (hr : (execOp a.eval o).run P w = .ok (.comm cases blocking shape) w') :
    ∃ es, stepG P true (G (b.at a (.inRegion ops (i :: rest) :: k)) cs) w = .comm (G (b.at a (.inRegion ops (i :: rest) :: k)) cs) cases blocking shape w' es := by
  rw [stepG_oper ho hw]
  simp [stepG.apply, hr, G, Frame.at, GStep.after]

section
variable {P : Program} {o : Oper} {a : Act} {w w₁ : World} {c cap s r : Nat} {buf : Array Value} {z z' v : Value} {tm closed blocking : Bool} {cases : Array CommCase} {kk : Nat}

theorem commTo_send (hr : (execOp a.eval o).run P w = .ok (.comm #[scase c v z'] true .send) w₁) (hc : w₁.heap[c]? = some (.chan cap buf false s r tm)) (hroom : buf.size < cap) :
    CommTo P o a w undef (w₁.setChan c cap (buf.push v) false (s + 1) r tm) := by
  intro ops i rest b k cs ho hw
  obtain ⟨es, hes⟩ := step_comm_any (P := P) (b := b) (k := k) (cs := cs) (rest := rest) ho hw hr
  have := step_lone_send_room hes hc hroom
  rw [Frame.finish_at, ho] at this
  exact this

theorem commTo_recv (hr : (execOp a.eval o).run P w = .ok (.comm #[rcase c z] true (.recv false)) w₁) (hc : w₁.heap[c]? = some (.chan cap buf closed s r tm)) (hsome : 0 < buf.size) :
    CommTo P o a w (buf.getD 0 undef) (w₁.setChan c cap (buf.extract 1 buf.size) closed s (r + 1) tm) := by
  intro ops i rest b k cs ho hw
  obtain ⟨es, hes⟩ := step_comm_any (P := P) (b := b) (k := k) (cs := cs) (rest := rest) ho hw hr
  have := step_lone_recv_buf false hes hc hsome
  rw [Frame.finish_at, ho] at this
  exact this

theorem commTo_sel_recv (hr : (execOp a.eval o).run P w = .ok (.comm cases blocking .select) w₁) (hk : cases[kk]? = some (rcase c z)) (hoth : ∀ (m : Nat) (c' : CommCase), m ≠ kk → cases[m]? = some c' → NoWay w₁ c')
    (hc : w₁.heap[c]? = some (.chan cap buf closed s r tm)) (hsome : 0 < buf.size) :
    CommTo P o a w (commResult cases .select kk (buf.getD 0 undef) true) (w₁.setChan c cap (buf.extract 1 buf.size) closed s (r + 1) tm) := by
  intro ops i rest b k cs ho hw
  obtain ⟨es, hes⟩ := step_comm_any (P := P) (b := b) (k := k) (cs := cs) (rest := rest) ho hw hr
  have := step_lone_sel_recv_buf hes hk hoth hc hsome
  rw [Frame.finish_at, ho] at this
  exact this

theorem commTo_sel_shut (hr : (execOp a.eval o).run P w = .ok (.comm cases blocking .select) w₁) (hk : cases[kk]? = some (rcase c z)) (hoth : ∀ (m : Nat) (c' : CommCase), m ≠ kk → cases[m]? = some c' → NoWay w₁ c')
    (hc : w₁.heap[c]? = some (.chan cap #[] true s r tm)) :
    CommTo P o a w (commResult cases .select kk z false) w₁ := by
  intro ops i rest b k cs ho hw
  obtain ⟨es, hes⟩ := step_comm_any (P := P) (b := b) (k := k) (cs := cs) (rest := rest) ho hw hr
  have := step_lone_sel_recv_shut hes hk hoth hc
  rw [Frame.finish_at, ho] at this
  exact this

theorem commTo_sel_send (hr : (execOp a.eval o).run P w = .ok (.comm cases blocking .select) w₁) (hk : cases[kk]? = some (scase c v z)) (hoth : ∀ (m : Nat) (c' : CommCase), m ≠ kk → cases[m]? = some c' → NoWay w₁ c')
    (hc : w₁.heap[c]? = some (.chan cap buf false s r tm)) (hroom : buf.size < cap) :
    CommTo P o a w (commResult cases .select kk undef false) (w₁.setChan c cap (buf.push v) false (s + 1) r tm) := by
  intro ops i rest b k cs ho hw
  obtain ⟨es, hes⟩ := step_comm_any (P := P) (b := b) (k := k) (cs := cs) (rest := rest) ho hw hr
  have := step_lone_sel_send_room hes hk hoth hc hroom
  rw [Frame.finish_at, ho] at this
  exact this
end

theorem wpOps_part {P : Program} {ops : Array Oper} {Q : Exit → Act → World → Prop} (l : List Oper) : ∀ k, (∀ j, j < l.length → l[j]? = ops[k + j]?) → wpOps P ops Q (List.range' k l.length) = wpList P ops Q l := by
  induction l with
  | nil => intro k _; funext a w; simp [wpOps, wpList]
  | cons o l ih =>
    intro k h
    have h0 : ops[k]? = some o := by simpa using (h 0 (by simp)).symm
    have ih' := ih (k + 1) (fun j hj => by have := h (j + 1) (by simpa using hj); simpa [Nat.add_assoc, Nat.add_comm 1 j] using this)
    funext a w
    simp only [List.length_cons, List.range'_succ, wpOps, h0, wpList, ih']

/-- THE REGION's LAW: the operations l1; behind them the communication o (not guarded); behind it l2. -/
theorem wp_region_comm {P : Program} {id : Nat} (l1 : List Oper) (o : Oper) (l2 : List Oper) {Q : Exit → Act → World → Prop} {a : Act} {w : World} (hg : o.guard = none)
    (h : wpList P (l1 ++ o :: l2).toArray (Exit.then (fun a' w' => ∃ v w'', CommTo P o a' w' v w'' ∧ wpList P (l1 ++ o :: l2).toArray Q l2 (a'.put o.dst v) w'') Q) l1 a w) :
    (Code.region id (l1 ++ o :: l2).toArray false).wp P Q a w := by
  intro b k cs
  rw [← wpOps_part l1 0 (fun j hj => by simp [List.getElem?_append_left hj])] at h
  have hr : List.range (l1 ++ o :: l2).toArray.size = List.range' 0 l1.length ++ l1.length :: List.range' (l1.length + 1) l2.length := by
    have e : (l1 ++ o :: l2).toArray.size = l1.length + (l2.length + 1) := by simp
    rw [e, List.range_eq_range', ← List.range'_append_1, List.range'_succ]
    simp
  obtain ⟨e, a', w', hq, hb⟩ := ops_behind (List.range' 0 l1.length) a w h (l1.length :: List.range' (l1.length + 1) l2.length) b k cs
  rw [← hr] at hb
  have hs := step_region (P := P) (b := b) (a := a) (k := k) (cs := cs) (w := w) (ops := (l1 ++ o :: l2).toArray) (id := id)
  cases e with
  | normal =>
    obtain ⟨v, w'', hc, hl⟩ := hq
    rw [← wpOps_part l2 (l1.length + 1) (fun j hj => by simp [List.getElem?_append_right (show l1.length ≤ l1.length + 1 + j by omega), show l1.length + 1 + j - l1.length = j + 1 by omega])] at hl
    obtain ⟨e, a₂, w₂, hq₂, harr⟩ := wp_ops _ _ _ hl b k cs
    have hst := hc (l1 ++ o :: l2).toArray l1.length (List.range' (l1.length + 1) l2.length) b k cs (by simp) (by simp [Region.wanted, hg])
    exact ⟨e, a₂, w₂, hq₂, .of_steps (Steps.trans (.head hs hb) (.one hst)) harr⟩
  | exit id => exact ⟨_, a', w', hq, Arrives.of_steps (b := b) (k := k) (cs := cs) (e := .exit id) (.one hs) hb⟩
  | goto l => exact ⟨_, a', w', hq, Arrives.of_steps (b := b) (k := k) (cs := cs) (e := .goto l) (.one hs) hb⟩
  | ret => exact ⟨_, a', w', hq, Arrives.of_steps (b := b) (k := k) (cs := cs) (e := .ret) (.one hs) hb⟩
  | panic chain => exact ⟨_, a', w', hq, Arrives.of_steps (b := b) (k := k) (cs := cs) (e := .panic chain) (.one hs) hb⟩
  | outgrown => exact ⟨_, a', w', hq, Arrives.of_steps (b := b) (k := k) (cs := cs) (e := .outgrown) (a := a') (w := w') (.one hs) hb⟩
/-- .. the communication first. -/
theorem wp_region_comm0 {P : Program} {id : Nat} {o : Oper} {l2 : List Oper} {Q : Exit → Act → World → Prop} {a : Act} {w : World} (hg : o.guard = none) (v : Value) (w' : World) (hc : CommTo P o a w v w')
    (h : wpList P (o :: l2).toArray Q l2 (a.put o.dst v) w') : (Code.region id (o :: l2).toArray false).wp P Q a w :=
  wp_region_comm [] o l2 hg (wpList_nil ⟨v, w', hc, h⟩)
/-- .. what follows l1 being a variable, as the walk wants it. -/
theorem wp_region_comm_k {P : Program} {id : Nat} (l1 : List Oper) (o : Oper) (l2 : List Oper) {Q : Exit → Act → World → Prop} {a : Act} {w : World} (hg : o.guard = none)
    (h : ∀ K : Act → World → Prop, (∀ a' w', (∃ v w'', CommTo P o a' w' v w'' ∧ wpList P (l1 ++ o :: l2).toArray Q l2 (a'.put o.dst v) w'') → K a' w') → wpList P (l1 ++ o :: l2).toArray (Exit.then K Q) l1 a w) :
    (Code.region id (l1 ++ o :: l2).toArray false).wp P Q a w :=
  wp_region_comm l1 o l2 hg (h _ fun _ _ h => h)
#print axioms wp_region_comm
end Go.Proofs.Ybulkaboq
