import Derived.Conc.LoneSelect
import Derived.Tactics
namespace Go.Proofs.Ybulkazlm.Comm
open Go.Conc

/-! A COMMUNICATION INSIDE THE KIT's OWN WALK ('Code.wp', over any program). 'Code.wp' speaks of the machine's steps, so a region that holds one communication can be walked as any other: the operations ahead of it by 'wpList', the communication by one step of the machine of one goroutine, the operations behind it by 'wpList' again. -/

section
variable {P : Program}

/-- The step of a communication, whatever the frame's kind (the kind turns only what is listed). -/
theorem stepG_comm_any {b : Frame} {a : Act} {k : List Item} {cs : List Frame} {w : World} {ops : Array Oper} {i : Nat} {rest : List Nat} {o : Oper} {cases : Array CommCase} {blocking : Bool} {shape : CommShape} {w' : World}
    (ho : ops[i]? = some o) (hw : Region.wanted o (yielded ops a.tmps) = true) (hr : (execOp a.eval o).run P w = .ok (.comm cases blocking shape) w') :
    ∃ es, stepG P true (G (b.at a (.inRegion ops (i :: rest) :: k)) cs) w = .comm (G (b.at a (.inRegion ops (i :: rest) :: k)) cs) cases blocking shape w' es := by
  rw [stepG_oper ho hw]
  simp [stepG.apply, hr, G, Frame.at, GStep.after]

/-- ONE COMMUNICATION, CARRIED OUT: operation o, in state a and world w, is this communication; the machine of one takes it in one step, hands over v and leaves the world w2. -/
structure Took (P : Program) (o : Oper) (a : Act) (w : World) (v : Value) (w2 : World) : Prop where
  free : o.guard = none
  go : ∃ (cases : Array CommCase) (blocking : Bool) (shape : CommShape) (w1 : World), (execOp a.eval o).run P w = .ok (.comm cases blocking shape) w1 ∧
    ∀ (fr : Frame) (cs : List Frame) (es : Array Event), stepG P true (G fr cs) w = .comm (G fr cs) cases blocking shape w1 es → step P (solo (G fr cs) w) = .next (solo (G (fr.finish v) cs) w2)

/-- The rest of a region, said of the machine's steps. -/
def Rest (P : Program) (ops : Array Oper) (Q : Exit → Act → World → Prop) (l : List Nat) (a : Act) (w : World) : Prop :=
  ∀ (b : Frame) (k : List Item) (cs : List Frame), ∃ e a' w', Q e a' w' ∧ Arrives P (lone (b.at a (.inRegion ops l :: k)) cs w) b k cs e a' w'

theorem Rest.cons {ops : Array Oper} {Q : Exit → Act → World → Prop} {i : Nat} {rest : List Nat} {a a1 : Act} {w w1 : World}
    (hs : ∀ (b : Frame) (k : List Item) (cs : List Frame), step P (lone (b.at a (.inRegion ops (i :: rest) :: k)) cs w) = .next (lone (b.at a1 (.inRegion ops rest :: k)) cs w1))
    (h : Rest P ops Q rest a1 w1) : Rest P ops Q (i :: rest) a w := fun b k cs =>
  let ⟨e, a', w', q, r⟩ := h b k cs
  ⟨e, a', w', q, .of_steps (.one (hs b k cs)) r⟩

/-- A communication at the head of what is left of the region. -/
theorem Rest.comm {ops : Array Oper} {Q : Exit → Act → World → Prop} {i : Nat} {rest : List Nat} {o : Oper} {a : Act} {w w2 : World} {v : Value}
    (ho : ops[i]? = some o) (ht : Took P o a w v w2) (h : Rest P ops Q rest (a.put o.dst v) w2) : Rest P ops Q (i :: rest) a w := by
  refine Rest.cons (fun b k cs => ?_) h
  obtain ⟨hg, cases, blocking, shape, w1, hr, hstep⟩ := ht
  obtain ⟨es, he⟩ := stepG_comm_any (b := b) (k := k) (cs := cs) (rest := rest) ho (by simp [Region.wanted, hg]) hr
  have := hstep _ _ _ he
  rw [Frame.finish_at, ho] at this
  exact this

/-- An operation of the walk's own kinds at the head. -/
theorem Rest.op {ops : Array Oper} {Q : Exit → Act → World → Prop} {i : Nat} {rest : List Nat} {o : Oper} {a : Act} {w : World} {K : Act → World → Prop}
    (ho : ops[i]? = some o) (hw : Region.wanted o (yielded ops a.tmps) = true) (h : o.wp P a w K Q) (hK : ∀ a w, K a w → Rest P ops Q rest a w) : Rest P ops Q (i :: rest) a w := by
  have hfin : ∀ (b : Frame) (k : List Item) (a : Act) (v : Value), (b.at a (.inRegion ops (i :: rest) :: k)).finish v = b.at (a.put o.dst v) (.inRegion ops rest :: k) := by
    intro b k a v; rw [Frame.finish_at, ho]; rfl
  have hg := fun (b : Frame) (k : List Item) (cs : List Frame) => stepG_op (P := P) (b := b) (k := k) (cs := cs) (w := w) (rest := rest) ho hw
  unfold Oper.wp at h
  generalize hr : (execOp a.eval o).run P w = r at h
  unfold Oper.upon at h
  split at h
  · rename_i v w'
    exact Rest.cons (fun b k cs => step_lone_go (by rw [hg, ← hfin]; simp [stepG.apply, hr])) (hK _ _ h)
  · rename_i w'
    exact Rest.cons (fun b k cs => step_lone_go (by rw [hg, ← hfin]; simp [stepG.apply, hr])) (hK _ _ h)
  · rename_i d w'
    refine Rest.cons (fun b k cs => step_lone_go ?_) (hK _ _ h)
    have := hfin b k { a with defers := d :: a.defers } undef
    rw [hg]
    simp only [stepG.apply, Sem.runT_eq, hr, GStep.bare_after]
    exact congrArg (fun fr => GStep.go { frame := fr, callers := cs, status := .running, dying := none } w') this
  · rename_i f args w'
    intro b k cs
    have henter : step P (lone (b.at a (.inRegion ops (i :: rest) :: k)) cs w) = .next (lone (Frame.enter P f args .normal) (b.at a (.inRegion ops (i :: rest) :: k) :: cs) w') :=
      step_lone_go (by rw [hg]; simp [stepG.apply, hr, Frame.at])
    obtain ⟨e, w'', fr, hR, hsteps, _, hleave⟩ := h (b.at a (.inRegion ops (i :: rest) :: k) :: cs)
    cases e with
    | returned v =>
      obtain ⟨e, a', w3, hq, harr⟩ := hK _ _ hR b k cs
      exact ⟨e, a', w3, hq, .of_steps (.head henter (hsteps.trans (.one (by rw [← hfin]; exact step_leave_returned hleave)))) harr⟩
    | panicked chain =>
      exact ⟨.panic chain, a, w'', hR, _, .head henter (hsteps.trans (.one (by rw [← Frame.raise_at]; exact step_leave_panicked hleave)))⟩
    | outgrown =>
      obtain ⟨a0, w0, hq⟩ := hR
      exact ⟨.outgrown, a0, w0, hq, .inr (Outgrown.of_steps (.one henter) hsteps)⟩
  · rename_i row args w'
    intro b k cs
    have henter : step P (lone (b.at a (.inRegion ops (i :: rest) :: k)) cs w) = .next (lone (Frame.ofRow P row args .normal) (b.at a (.inRegion ops (i :: rest) :: k) :: cs) w') :=
      step_lone_go (by rw [hg]; simp [stepG.apply, hr, Frame.at])
    obtain ⟨v, w'', hR, hsteps⟩ := h (b.at a (.inRegion ops (i :: rest) :: k)) cs
    obtain ⟨e, a', w3, hq, harr⟩ := hK _ _ hR b k cs
    exact ⟨e, a', w3, hq, .of_steps (.head henter (by rw [← hfin]; exact hsteps)) harr⟩
  · rename_i v w'
    exact fun b k cs => ⟨_, a, w', h, .inRegion ops (i :: rest) :: k, .one (step_lone_go (by rw [hg, ← Frame.raise_at]; simp [stepG.apply, hr]))⟩
  · exact h.elim

theorem Rest.skip {ops : Array Oper} {Q : Exit → Act → World → Prop} {i : Nat} {rest : List Nat} {o : Oper} {a : Act} {w : World}
    (ho : ops[i]? = some o) (hw : ¬ Region.wanted o (yielded ops a.tmps) = true) (h : Rest P ops Q rest (a.put o.dst undef) w) : Rest P ops Q (i :: rest) a w := by
  refine Rest.cons (fun b k cs => ?_) h
  have hs := step_op_skip (P := P) (b := b) (a := a) (k := k) (cs := cs) (w := w) (ops := ops) (i := i) (rest := rest) (by simp [ho]; simpa using hw)
  simpa only [ho, Option.bind_some] using hs

/-- What is asked behind the operations ahead of the communication. -/
def Then (P : Program) (ops : Array Oper) (tail : List Nat) (Q : Exit → Act → World → Prop) : Exit → Act → World → Prop
  | .normal, a, w => Rest P ops Q tail a w
  | e, a, w => Q e a w

theorem upon_then {ops : Array Oper} {Q : Exit → Act → World → Prop} {tail : List Nat} {o : Oper} {a : Act} {K : Act → World → Prop} {r : Result Next}
    (h : o.upon P a K (Then P ops tail Q) r) : o.upon P a K Q r := by
  unfold Oper.upon at h ⊢
  split at h <;> exact h

/-- The operations ahead of operation j by the walk; then whatever has been shown of the rest. -/
theorem Rest.ahead {ops : Array Oper} {Q : Exit → Act → World → Prop} {tail : List Nat} (l : List Oper) : ∀ (j : Nat) (a : Act) (w : World), (∀ i, i < l.length → ops[j + i]? = l[i]?) →
    wpList P ops (Then P ops tail Q) l a w → Rest P ops Q (List.range' j l.length ++ tail) a w := by
  induction l with
  | nil => intro j a w _ h; exact h
  | cons o l ih =>
    intro j a w hl h
    have h0 : ops[j]? = some o := by simpa using hl 0 (by simp)
    have ih' := fun a w => ih (j + 1) a w (fun i hi => by have := hl (i + 1) (by simpa using hi); simpa [Nat.add_assoc, Nat.add_comm 1 i] using this)
    simp only [List.length_cons, List.range'_succ, List.cons_append]
    unfold wpList at h
    split at h
    · rename_i hw
      rcases h with h | ⟨hasks, a0, w0, hq⟩
      · exact Rest.op h0 hw (upon_then h) ih'
      · intro b k cs
        by_cases hk : b.kind = .early
        · exact ⟨.outgrown, a0, w0, hq, .inl hk⟩
        · exact ⟨.outgrown, a0, w0, hq, .inr (asks_outgrown h0 hw hk hasks)⟩
    · rename_i hw
      exact Rest.skip h0 hw (ih' _ _ h)

/-- The operations behind operation j. -/
theorem Rest.behind {ops : Array Oper} {Q : Exit → Act → World → Prop} (l : List Oper) (j : Nat) (a : Act) (w : World) (hl : ∀ i, l[i]? = ops[j + i]?)
    (h : wpList P ops Q l a w) : Rest P ops Q (List.range' j l.length) a w := by
  rw [← wpOps_eq_wpList l j hl] at h
  exact wp_ops _ a w h

/-- ████ A REGION THAT HOLDS ONE COMMUNICATION (operation j, o): the walk over what stands ahead of it; one step of the machine; the walk over what stands behind it. -/
theorem wp_region_comm {id : Nat} {ops : Array Oper} {Q : Exit → Act → World → Prop} {a : Act} {w : World} (pre : List Oper) (o : Oper) (post : List Oper) (hops : ops = (pre ++ o :: post).toArray)
    (h : wpList P ops (Then P ops (pre.length :: List.range' (pre.length + 1) post.length) Q) pre a w) : (Code.region id ops false).wp P Q a w := by
  have e : List.range ops.size = List.range' 0 pre.length ++ (pre.length :: List.range' (pre.length + 1) post.length) := by
    subst hops
    rw [List.range_eq_range', ← List.range'_succ]
    have := List.range'_append (s := 0) (m := pre.length) (n := post.length + 1) (step := 1)
    simp at this
    simp
    rw [this]
  have hr := Rest.ahead pre 0 a w (fun i hi => by subst hops; simp [List.getElem?_append_left hi]) h
  rw [← e] at hr
  intro b k cs
  obtain ⟨e', a', w', q, r⟩ := hr b k cs
  exact ⟨e', a', w', q, .of_steps (.one step_region) r⟩

/-- .. and at the communication itself. -/
theorem then_comm {ops : Array Oper} {Q : Exit → Act → World → Prop} {a : Act} {w w2 : World} {v : Value} (pre : List Oper) (o : Oper) (post : List Oper) (hops : ops = (pre ++ o :: post).toArray)
    (ht : Took P o a w v w2) (h : wpList P ops Q post (a.put o.dst v) w2) : Then P ops (pre.length :: List.range' (pre.length + 1) post.length) Q .normal a w := by
  refine Rest.comm (by subst hops; simp) ht (Rest.behind post _ _ _ (fun i => ?_) h)
  subst hops
  simp only [List.getElem?_toArray]
  rw [List.getElem?_append_right (by omega)]
  rw [show pre.length + 1 + i - pre.length = i + 1 by omega, List.getElem?_cons_succ]

theorem split_at {ops : Array Oper} {j : Nat} {o : Oper} (ho : ops[j]? = some o) : ops = (ops.toList.take j ++ o :: ops.toList.drop (j + 1)).toArray := by
  obtain ⟨l⟩ := ops
  simp only [List.getElem?_toArray] at ho
  obtain ⟨hj, hg⟩ := List.getElem?_eq_some_iff.1 ho
  have h1 : l.drop j = o :: l.drop (j + 1) := by rw [List.drop_eq_getElem_cons hj, hg]
  simp only
  rw [← h1, List.take_append_drop]

/-- The same two laws, the communication told by its number. -/
theorem wp_region_comm_at {id : Nat} {ops : Array Oper} {Q : Exit → Act → World → Prop} {a : Act} {w : World} (j : Nat) {o : Oper} (ho : ops[j]? = some o)
    (h : wpList P ops (Then P ops ((ops.toList.take j).length :: List.range' ((ops.toList.take j).length + 1) (ops.toList.drop (j + 1)).length) Q) (ops.toList.take j) a w) : (Code.region id ops false).wp P Q a w :=
  wp_region_comm _ o _ (split_at ho) h

theorem then_comm_at {ops : Array Oper} {Q : Exit → Act → World → Prop} {a : Act} {w w2 : World} {v : Value} (j : Nat) {o : Oper} (ho : ops[j]? = some o)
    (ht : Took P o a w v w2) (h : wpList P ops Q (ops.toList.drop (j + 1)) (a.put o.dst v) w2) : Then P ops ((ops.toList.take j).length :: List.range' ((ops.toList.take j).length + 1) (ops.toList.drop (j + 1)).length) Q .normal a w :=
  then_comm _ o _ (split_at ho) ht h

section
variable {o : Oper} {a : Act} {w : World} {c cap s r : Nat} {buf : Array Value} {z z' v : Value} {tm : Bool}

/-- A send into a buffer with room. -/
theorem took_send_room (hg : o.guard = none) (hr : (execOp a.eval o).run P w = .ok (.comm #[scase c v z'] true .send) w) (hc : w.heap[c]? = some (.chan cap buf false s r tm)) (hroom : buf.size < cap) :
    Took P o a w undef (w.setChan c cap (buf.push v) false (s + 1) r tm) :=
  ⟨hg, _, _, _, _, hr, fun _ _ _ h => step_lone_send_room h hc hroom⟩

/-- A select of one receive with a default; the channel is closed and empty: the receive is ready. -/
theorem took_select_recv_shut (hg : o.guard = none) (hr : (execOp a.eval o).run P w = .ok (.comm #[rcase c z] false .select) w) (hc : w.heap[c]? = some (.chan cap #[] true s r tm)) :
    Took P o a w (.tuple #[goInt 0, .bool false, z]) w :=
  ⟨hg, _, _, _, _, hr, fun _ _ _ h => step_lone_select_recv_shut h hc⟩

/-- A select of one send with a default; there is room. -/
theorem took_select_send_room (hg : o.guard = none) (hr : (execOp a.eval o).run P w = .ok (.comm #[scase c v z'] false .select) w) (hc : w.heap[c]? = some (.chan cap buf false s r tm)) (hroom : buf.size < cap) :
    Took P o a w (.tuple #[goInt 0, .bool false]) (w.setChan c cap (buf.push v) false (s + 1) r tm) :=
  ⟨hg, _, _, _, _, hr, fun _ _ _ h => step_lone_select_send_room h hc hroom⟩

/-- A select of one send with a default; there is no room: the default. -/
theorem took_select_send_full (hg : o.guard = none) (hr : (execOp a.eval o).run P w = .ok (.comm #[scase c v z'] false .select) w) (hc : w.heap[c]? = some (.chan cap buf false s r tm)) (hfull : cap ≤ buf.size) :
    Took P o a w (.tuple #[goInt (-1), .bool false]) w :=
  ⟨hg, _, _, _, _, hr, fun _ _ _ h => step_lone_select_send_full h hc hfull⟩
end
end
end Go.Proofs.Ybulkazlm.Comm
