import Derived.Test.YbulkazlmFind
namespace Go.Proofs.Ybulkazlm.Wake
open Go.ChangeShapes Go.WideShapes Go.RowKit
open Go.Proofs.Ybulkazlm.Comm
set_option linter.unusedVariables false

/-- What lies in wake's buffer. -/
def buf (tok : Bool) : Array Value := if tok then #[.agg #[]] else #[]

/-- trySend, where the channel has room. -/
theorem send_room (c s r : Nat) (w : World) (hc : w.heap[c]? = some (.chan 1 #[] false s r false)) :
    Calls Yba.prog 16 #[.chan (some c), .agg #[]] w fun e w' => e = .returned (.bool true) ∧ w' = (w.alloc (.cells #[] 27)).setChan c 1 #[.agg #[]] false (s + 1) r false := by
  have hlt : c < w.heap.size := (Array.getElem?_eq_some_iff.1 hc).1
  have hc2 : (w.alloc (.cells #[] 27)).heap[c]? = some (.chan 1 #[] false s r false) := by rw [Below.heap_alloc _ _ _ hlt]; exact hc
  clear hc
  go_enter Yba.func16, Yba.ntmps16
  go_upto_region 3 with fail
  refine wp_region_comm [] _ _ rfl ?_
  apply wpList_nil
  refine then_comm [] _ _ rfl (took_select_send_room (c := c) (v := .agg #[]) (z' := .agg #[]) (cap := 1) (buf := #[]) rfl (by simp [go_sem, execOp, Go.Conc.scase, Act.eval]) hc2 (by simp)) ?_
  go_wp2
  go_ret
  exact ⟨rfl, rfl⟩

/-- trySend, where a token is there already. -/
theorem send_full (c s r : Nat) (w : World) (hc : w.heap[c]? = some (.chan 1 #[.agg #[]] false s r false)) :
    Calls Yba.prog 16 #[.chan (some c), .agg #[]] w fun e w' => e = .returned (.bool false) ∧ w' = w.alloc (.cells #[] 27) := by
  have hlt : c < w.heap.size := (Array.getElem?_eq_some_iff.1 hc).1
  have hc2 : (w.alloc (.cells #[] 27)).heap[c]? = some (.chan 1 #[.agg #[]] false s r false) := by rw [Below.heap_alloc _ _ _ hlt]; exact hc
  clear hc
  go_enter Yba.func16, Yba.ntmps16
  go_upto_region 3 with fail
  refine wp_region_comm [] _ _ rfl ?_
  apply wpList_nil
  refine then_comm [] _ _ rfl (took_select_send_full (c := c) (v := .agg #[]) (z' := .agg #[]) (cap := 1) (buf := #[.agg #[]]) rfl (by simp [go_sem, execOp, Go.Conc.scase, Act.eval]) hc2 (by simp)) ?_
  go_wp2
  go_ret
  exact ⟨rfl, rfl⟩

/-! ### The Chan in memory -/
/-- The Chan's own cells (channel wake in block N): the empty queue, closed or open; the count of waiting Recvs; the lock's word m; the pump's state in block N + 2, or none. -/
structure Cells (N : Nat) (wt : Int) (cl pm : Bool) (m : Int) (C : Array Value) : Prop where
  tail : C[0]? = some (.int .i64 0)
  head : C[57]? = some (.int .i64 0)
  hseg : C[116]? = some (.pointer none)
  closed : C[117]? = some (.int .u32 (if cl then 1 else 0))
  waiting : C[120]? = some (.int .i32 wt)
  wake : C[121]? = some (.chan (some N))
  mu : C[122]? = some (.int .i32 m)
  sema : C[123]? = some (.int .u32 0)
  pump : C[125]? = some (.pointer ((if pm then some (N + 2) else none).map fun s => ⟨s, 0, none⟩))

/-- The world behind zzs2534cbuild and whatever follows. w: the world in which the law was called. -/
structure Ch (w : World) (wt : Int) (cl pm tok : Bool) (m : Int) (wr : World) : Prop where
  me : ∃ C, wr.heap[w.heap.size + 1]? = some (.cells C 52) ∧ Cells w.heap.size wt cl pm m C
  state : pm = true → ∃ p : Array Value, p.size = 4 ∧ wr.heap[w.heap.size + 2]? = some (.cells p 57)
  chan : ∃ s r, wr.heap[w.heap.size]? = some (.chan 1 (buf tok) false s r false)
  bel : Below w.heap.size w wr

theorem cell_of {w : World} {b : Nat} {C : Array Value} {t : TypeId} (h : w.heap[b]? = some (.cells C t)) (o : Nat) : w.cell? ⟨b, o, none⟩ = C[o]? := by simp [World.cell?, h]
theorem frozen_of {w : World} {b : Nat} {C : Array Value} {t : TypeId} (h : w.heap[b]? = some (.cells C t)) (o : Nat) : w.frozen? ⟨b, o, none⟩ = false := by simp [World.frozen?, h]
theorem block_setCell {w : World} {b : Nat} {C : Array Value} {t : TypeId} (h : w.heap[b]? = some (.cells C t)) (o : Nat) (v : Value) : (w.setCell ⟨b, o, none⟩ v).heap[b]? = some (.cells (C.setIfInBounds o v) t) := by
  simp [World.setCell, Array.getElem?_modify, h]
theorem block_setChan {w : World} {c b cap : Nat} {bf : Array Value} {cl : Bool} {s r : Nat} {tm : Bool} (h : c ≠ b) : (w.setChan c cap bf cl s r tm).heap[b]? = w.heap[b]? := by
  simp only [World.setChan]; rw [Array.getElem?_setIfInBounds_ne h]
theorem lt_of_block {w : World} {b : Nat} {o : Obj} (h : w.heap[b]? = some o) : b < w.heap.size := (Array.getElem?_eq_some_iff.1 h).1

section
variable {w : World} {wt : Int} {cl pm tok : Bool} {m : Int} {wr : World}

theorem Ch.alloc (h : Ch w wt cl pm tok m wr) (x : Obj) : Ch w wt cl pm tok m (wr.alloc x) where
  me := by obtain ⟨C, h1, h2⟩ := h.me; exact ⟨C, by rw [Below.heap_alloc _ _ _ (lt_of_block h1)]; exact h1, h2⟩
  state hp := by obtain ⟨p, h1, h2⟩ := h.state hp; exact ⟨p, h1, by rw [Below.heap_alloc _ _ _ (lt_of_block h2)]; exact h2⟩
  chan := by obtain ⟨s, r, h1⟩ := h.chan; exact ⟨s, r, by rw [Below.heap_alloc _ _ _ (lt_of_block h1)]; exact h1⟩
  bel := h.bel.alloc h.bel.size _

/-- A token is put into wake. -/
theorem Ch.token (h : Ch w wt cl pm tok m wr) (s r : Nat) : Ch w wt cl pm true m (wr.setChan w.heap.size 1 #[.agg #[]] false s r false) where
  me := by obtain ⟨C, h1, h2⟩ := h.me; exact ⟨C, by rw [block_setChan (by omega)]; exact h1, h2⟩
  state hp := by obtain ⟨p, h1, h2⟩ := h.state hp; exact ⟨p, h1, by rw [block_setChan (by omega)]; exact h2⟩
  chan := by obtain ⟨s', r', h1⟩ := h.chan; exact ⟨s, r, Go.Conc.heap_setChan _ _ _ _ _ _ _ _ (lt_of_block h1)⟩
  bel := Go.Conc.below_setChan h.bel (Nat.le_refl _) _ _ _ _ _ _

/-- The lock's word is written. -/
theorem Ch.lock (h : Ch w wt cl pm tok m wr) (m' : Int) : Ch w wt cl pm tok m' (wr.setCell ⟨w.heap.size + 1, 122, none⟩ (.int .i32 m')) where
  me := by
    obtain ⟨C, h1, h2⟩ := h.me
    have hsz : 122 < C.size := (Array.getElem?_eq_some_iff.1 h2.mu).1
    refine ⟨_, block_setCell h1 122 _, ?_⟩
    exact ⟨by rw [Array.getElem?_setIfInBounds_ne (by omega)]; exact h2.tail, by rw [Array.getElem?_setIfInBounds_ne (by omega)]; exact h2.head, by rw [Array.getElem?_setIfInBounds_ne (by omega)]; exact h2.hseg,
      by rw [Array.getElem?_setIfInBounds_ne (by omega)]; exact h2.closed, by rw [Array.getElem?_setIfInBounds_ne (by omega)]; exact h2.waiting, by rw [Array.getElem?_setIfInBounds_ne (by omega)]; exact h2.wake,
      by rw [Array.getElem?_setIfInBounds_self_of_lt hsz], by rw [Array.getElem?_setIfInBounds_ne (by omega)]; exact h2.sema, by rw [Array.getElem?_setIfInBounds_ne (by omega)]; exact h2.pump⟩
  state hp := by obtain ⟨p, h1, h2⟩ := h.state hp; exact ⟨p, h1, by rw [Below.heap_setCell _ _ _ _ (by simp)]; exact h2⟩
  chan := by obtain ⟨s, r, h1⟩ := h.chan; exact ⟨s, r, by rw [Below.heap_setCell _ _ _ _ (by simp)]; exact h1⟩
  bel := h.bel.setCell (by simp) _

theorem Ch.empty (h : Ch w wt cl pm tok m wr) : Empty (w.heap.size + 1) wr := by
  obtain ⟨C, h1, h2⟩ := h.me
  exact ⟨by rw [cell_of h1]; exact h2.tail, by rw [cell_of h1]; exact h2.head, by rw [cell_of h1]; exact h2.hseg⟩
theorem Ch.cclosed (h : Ch w wt cl pm tok m wr) : wr.cell? ⟨w.heap.size + 1, 117, none⟩ = some (.int .u32 (if cl then 1 else 0)) := by
  obtain ⟨C, h1, h2⟩ := h.me; rw [cell_of h1]; exact h2.closed
theorem Ch.cwaiting (h : Ch w wt cl pm tok m wr) : wr.cell? ⟨w.heap.size + 1, 120, none⟩ = some (.int .i32 wt) := by
  obtain ⟨C, h1, h2⟩ := h.me; rw [cell_of h1]; exact h2.waiting
theorem Ch.cwake (h : Ch w wt cl pm tok m wr) : wr.cell? ⟨w.heap.size + 1, 121, none⟩ = some (.chan (some w.heap.size)) := by
  obtain ⟨C, h1, h2⟩ := h.me; rw [cell_of h1]; exact h2.wake
theorem Ch.cmu (h : Ch w wt cl pm tok m wr) : wr.cell? ⟨w.heap.size + 1, 122, none⟩ = some (.int .i32 m) := by
  obtain ⟨C, h1, h2⟩ := h.me; rw [cell_of h1]; exact h2.mu
theorem Ch.zmu (h : Ch w wt cl pm tok m wr) (o : Nat) : wr.frozen? ⟨w.heap.size + 1, o, none⟩ = false := by
  obtain ⟨C, h1, h2⟩ := h.me; exact frozen_of h1 o
theorem Ch.csema (h : Ch w wt cl pm tok m wr) : wr.cell? ⟨w.heap.size + 1, 123, none⟩ = some (.int .u32 0) := by
  obtain ⟨C, h1, h2⟩ := h.me; rw [cell_of h1]; exact h2.sema
theorem Ch.cpump (h : Ch w wt cl pm tok m wr) : wr.cell? ⟨w.heap.size + 1, 125, none⟩ = some (.pointer ((if pm then some (w.heap.size + 2) else none).map fun s => ⟨s, 0, none⟩)) := by
  obtain ⟨C, h1, h2⟩ := h.me; rw [cell_of h1]; exact h2.pump
theorem Ch.shape (h : Ch w wt cl pm tok m wr) : ∀ s, (if pm then some (w.heap.size + 2) else none) = some s → wr.shape? s = some (57, 4) := by
  intro s hs
  cases pm
  · simp at hs
  · simp only [if_true, Option.some.injEq] at hs
    subst hs
    obtain ⟨p, h1, h2⟩ := h.state rfl
    simp [World.shape?, h2, h1]

theorem Ch.find (h : Ch w wt cl pm tok m wr) : Calls Yba.prog 15 #[.pointer (some ⟨w.heap.size + 1, 0, none⟩)] wr fun e w' => e = .returned (.bool (cl || pm)) ∧ w' = wr := by
  have := find_calls (w.heap.size + 1) cl (if pm then some (w.heap.size + 2) else none) wr h.empty h.cclosed h.cpump h.shape
  cases pm <;> simpa using this
theorem Ch.load (h : Ch w wt cl pm tok m wr) : Calls Yba.prog 8 #[.pointer (some ⟨w.heap.size + 1, 125, none⟩)] wr fun e w' => e = .returned (.pointer ((if pm then some (w.heap.size + 2) else none).map fun s => ⟨s, 0, none⟩)) ∧ w' = wr :=
  pump_load (w.heap.size + 1) 125 _ wr h.cpump h.shape

/-- trySend(c.wake, struct{}{}): a token lies there behind it. -/
theorem Ch.send (h : Ch w wt cl pm tok m wr) : Calls Yba.prog 16 #[.chan (some w.heap.size), .agg #[]] wr fun e w' => (∃ b, e = .returned (.bool b)) ∧ Ch w wt cl pm true m w' := by
  obtain ⟨s, r, hc⟩ := h.chan
  cases tok
  · exact (send_room w.heap.size s r wr hc).mono fun e w' ⟨he, hw⟩ => ⟨⟨_, he⟩, by rw [hw]; exact (h.alloc _).token _ _⟩
  · exact (send_full w.heap.size s r wr hc).mono fun e w' ⟨he, hw⟩ => ⟨⟨_, he⟩, by rw [hw]; exact h.alloc _⟩
end

/-- passWake: a token lies in wake iff one lay there before, or a Recv waits and has something to find. -/
theorem pass_calls {w : World} {wt : Int} {cl pm tok : Bool} {m : Int} {wr : World} (h : Ch w wt cl pm tok m wr) :
    Calls Yba.prog 6 #[.pointer (some ⟨w.heap.size + 1, 0, none⟩)] wr fun e w' => e = .returned (.tuple #[]) ∧ Ch w wt cl pm (tok || (decide (0 < wt) && (cl || pm))) m w' := by
  have h1 := load_i32 h.cwaiting
  have h2 := h.cwake
  have HF : Hid (Calls Yba.prog 15 #[.pointer (some ⟨w.heap.size + 1, 0, none⟩)] wr fun e w' => e = .returned (.bool (cl || pm)) ∧ w' = wr) := h.find
  have HS : Hid (Calls Yba.prog 16 #[.chan (some w.heap.size), .agg #[]] wr fun e w' => (∃ b, e = .returned (.bool b)) ∧ Ch w wt cl pm true m w') := h.send
  by_cases hw : 0 < wt
  · cases hcp : (cl || pm)
    · rw [hcp] at HF
      have R : Ch w wt cl pm (tok || (decide (0 < wt) && false)) m wr := by rw [Bool.and_false, Bool.or_false]; exact h
      clear h hcp
      go_enter Yba.func6, Yba.ntmps6
      go_wp2_with (first | (go_at_call 15; refine HF.out.mono ?_; rintro e w' ⟨rfl, rfl⟩))
      go_end0
      exact ⟨rfl, R⟩
    · rw [hcp] at HF
      have hdec : (tok || (decide (0 < wt) && true)) = true := by simp [hw]
      rw [hdec]
      clear h hcp hdec
      go_enter Yba.func6, Yba.ntmps6
      go_wp2_with (first | (go_at_call 15; refine HF.out.mono ?_; rintro e w' ⟨rfl, rfl⟩) | (go_at_call 16; refine HS.out.mono ?_; rintro e w' ⟨⟨b, rfl⟩, R⟩))
      go_end0
      exact ⟨rfl, R⟩
  · have hdec : (tok || (decide (0 < wt) && (cl || pm))) = tok := by simp [hw]
    rw [hdec]
    have R := h
    clear h hdec
    go_enter Yba.func6, Yba.ntmps6
    go_wp2_with fail
    go_end0
    exact ⟨rfl, R⟩
end Go.Proofs.Ybulkazlm.Wake
