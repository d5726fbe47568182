import Derived.Test.YbulkazkkRows
import Derived.Test.YbulkazkkComm
import Derived.WalkKit
import Derived.WalkLawsBesides
import Derived.WalkSpells
import Derived.Laws.LoneSync
import Derived.Deep.Cut
namespace Go.Proofs.Ybulkazkk.Marks
open Go.ChangeShapes Go.WideShapes Go.RowKit
set_option linter.unusedVariables false

section
variable {P : Program} {f : FuncId} {fn : Func}
/-- sync/atomic.LoadPointer: what the cell holds. -/
theorem run_call_loadPtr (hf : P.funcs[f]? = some fn) (hname : (fn.name == "runtime.NumGoroutine") = false) (hb : fn.body.isNone = true) (hn : Extern.findNext fn = none)
    (he : Extern.find fn = some (Extern.Atomic.loadT .ptr)) {a : Addr} {x : Option Addr} {w : World} (hc : w.cell? a = some (.pointer x)) :
    (callFunc f #[.pointer (some a)]).run P w = .ok (.value (.pointer x)) w := by
  rw [run_callFunc_extern hf hname hb hn he]
  change (Sem.run P (do Extern.Atomic.read .ptr (← asAddr (.pointer (some a)))) w).andThen _ = _
  simp [Extern.Atomic.read, asAddr, hc, Result.andThen]

/-- sync/atomic.StorePointer: the pointer is stored. -/
theorem run_call_storePtr (hf : P.funcs[f]? = some fn) (hname : (fn.name == "runtime.NumGoroutine") = false) (hb : fn.body.isNone = true) (hn : Extern.findNext fn = none)
    (he : Extern.find fn = some Extern.Atomic.storeT) {a : Addr} {y : Option Addr} {u : Value} {w : World} (hc : w.cell? a = some u) (hz : w.frozen? a = false) :
    (callFunc f #[.pointer (some a), .pointer y]).run P w = .ok (.value (.tuple #[])) (w.setCell a (.pointer y)) := by
  rw [run_callFunc_extern hf hname hb hn he]
  change (Sem.run P (do
    store (← asAddr (.pointer (some a))) (.pointer y) .atomic
    pure Extern.Atomic.none_) w).andThen _ = _
  simp [asAddr, hc, hz, run_store P w a (.pointer y) .atomic rfl, Result.andThen, Extern.Atomic.none_]
end

theorem load_ptr {a : Addr} {x : Option Addr} {w : World} (hc : w.cell? a = some (.pointer x)) : (callFunc 50 #[.pointer (some a)]).run Yba.prog w = .ok (.value (.pointer x)) w :=
  run_call_loadPtr Yba.func50 (by kernel_rfl) (by kernel_rfl) (by kernel_rfl) (by kernel_rfl) hc
theorem store_ptr {a : Addr} {y : Option Addr} {u : Value} {w : World} (hc : w.cell? a = some u) (hz : w.frozen? a = false) :
    (callFunc 36 #[.pointer (some a), .pointer y]).run Yba.prog w = .ok (.value (.tuple #[])) (w.setCell a (.pointer y)) :=
  run_call_storePtr Yba.func36 (by kernel_rfl) (by kernel_rfl) (by kernel_rfl) (by kernel_rfl) hc hz
theorem conv_nil (w : World) : (convert 37 33 (.pointer none)).run Yba.prog w = .ok (.pointer none) w := by
  kernel_rfl

theorem load_none (b o : Nat) (w : World) (hc : w.cell? ⟨b, o, none⟩ = some (.pointer none)) :
    Calls Yba.prog 37 #[.pointer (some ⟨b, o, none⟩)] w fun e w' => e = .returned (.pointer none) ∧ w' = w := by
  have h1 := load_ptr hc
  have h2 := conv_nil w
  go_enter Yba.func37, Yba.ntmps37
  go_wp2
  go_ret
  exact ⟨rfl, rfl⟩

theorem lies99 : liesAt Yba.prog Yba.prog.depth 99 (2 / Yba.prog.cellsOf 99) 0 99 1 = true := by kernel_rfl
theorem info99 : ∃ j, Yba.prog.info? 99 = some j ∧ j.size ≠ 0 := by
  obtain ⟨j, h1, h2⟩ := Option.map_eq_some_iff.1 (show (Yba.prog.info? 99).map (fun i => decide (i.size = 0)) = some false from by kernel_rfl)
  exact ⟨j, h1, by simpa using h2⟩

/-- The untyped pointer that was stored, read back as a pointer to the notes: the same address. ('change ..': the conversion's own text is laid open without its name.) -/
theorem conv_some {s : Nat} {w : World} (hsh : w.shape? s = some (99, 2)) : (convert 37 33 (.pointer (some ⟨s, 0, none⟩))).run Yba.prog w = .ok (.pointer (some ⟨s, 0, none⟩)) w := by
  obtain ⟨j, hj, _⟩ := info99
  have hlies := lies99
  simp [convert, run_underlying Yba.underlying37, run_underlying Yba.underlying33]
  change Sem.run Yba.prog (underlying 37 >>= _) w = _
  simp [run_underlying Yba.underlying37, run_underlying Yba.underlying33, Conv.seenAt, viewAt, hsh, variablesAt, hlies, sizeOf, typeInfo, hj]

/-- .. and the way there. -/
theorem conv_to {s : Nat} {v : Value} {w : World} (hc : w.cell? ⟨s, 0, none⟩ = some v) : (convert 33 37 (.pointer (some ⟨s, 0, none⟩))).run Yba.prog w = .ok (.pointer (some ⟨s, 0, none⟩)) w := by
  obtain ⟨e, n, hsh, hlt, hsp⟩ := World.shape?_of_cell? hc
  obtain ⟨j, hj, hz⟩ := info99
  have hge : 0 < n := hlt
  simp [convert, run_underlying Yba.underlying37, run_underlying Yba.underlying33]
  change Sem.run Yba.prog (underlying 33 >>= _) w = _
  simp [run_underlying Yba.underlying37, run_underlying Yba.underlying33, Conv.seenAt, viewAt, cellsIn, sizeOf, typeInfo, hj, hz, hsh, Result.andThen]
  intro h
  omega

theorem load_some (b o s : Nat) (w : World) (hc : w.cell? ⟨b, o, none⟩ = some (.pointer (some ⟨s, 0, none⟩))) (hsh : w.shape? s = some (99, 2)) :
    Calls Yba.prog 37 #[.pointer (some ⟨b, o, none⟩)] w fun e w' => e = .returned (.pointer (some ⟨s, 0, none⟩)) ∧ w' = w := by
  have h1 := load_ptr hc
  have h2 := conv_some hsh
  go_enter Yba.func37, Yba.ntmps37
  go_wp2
  go_ret
  exact ⟨rfl, rfl⟩

theorem store_calls (b o s : Nat) (u v : Value) (w : World) (hc : w.cell? ⟨b, o, none⟩ = some u) (hz : w.frozen? ⟨b, o, none⟩ = false) (hs : w.cell? ⟨s, 0, none⟩ = some v) :
    Calls Yba.prog 16 #[.pointer (some ⟨b, o, none⟩), .pointer (some ⟨s, 0, none⟩)] w fun e w' => e = .returned (.tuple #[]) ∧ w' = w.setCell ⟨b, o, none⟩ (.pointer (some ⟨s, 0, none⟩)) := by
  have h1 := store_ptr (y := some ⟨s, 0, none⟩) hc hz
  have h2 := conv_to hs
  clear hc hz
  go_enter Yba.func16, Yba.ntmps16
  go_wp2
  go_end0
  exact ⟨rfl, rfl⟩

/-- The stand-in context's Err: it counts the call and answers the chosen error. -/
theorem err_calls (c : Nat) (ev : Value) (w : World) (h0 : w.cell? ⟨c, 0, none⟩ = some ev) (h1 : w.cell? ⟨c, 1, none⟩ = some (.int .i64 0)) (hz : w.frozen? ⟨c, 1, none⟩ = false) :
    Calls Yba.prog 100 #[.pointer (some ⟨c, 0, none⟩)] w fun e w' => e = .returned ev ∧ w' = w.setCell ⟨c, 1, none⟩ (.int .i64 1) := by
  go_enter Yba.func100, Yba.ntmps100
  go_wp2
  go_ret
  exact ⟨rfl, rfl⟩


theorem method_err (a : Addr) (w : World) : (method 317 89 (.pointer (some a)) "Err").run Yba.prog w = .ok (100, .pointer (some a)) w := by kernel_rfl

theorem drain_none (b c : Nat) (w : World) (hp : w.cell? ⟨b, 5, none⟩ = some (.chan (some c))) (hs : w.cell? ⟨b, 10, none⟩ = some (.pointer none)) (hc : w.heap[c]? = some (.chan 0 #[] false 0 0 false)) :
    Calls Yba.prog 17 #[.pointer (some ⟨b, 0, none⟩)] w fun e w' => e = .returned (.tuple #[]) ∧ w' = w.setChan c 0 #[] true 0 0 false := by
  have hcl : ∀ ats ty, (Builtin.close_ ats ty #[.chan (some c)]).run Yba.prog w = .ok (.tuple #[]) (w.setChan c 0 #[] true 0 0 false) := fun ats ty => run_close_open ats ty hc
  clear hc
  go_enter Yba.func17, Yba.ntmps17
  go_wp2_with fail
  refine (load_none b 10 w hs).mono ?_
  rintro e w' ⟨rfl, rfl⟩
  go_wp2
  go_end0
  exact ⟨rfl, rfl⟩

/-- The error that a context that has ended answers. -/
def errv (N : Nat) (b : Bool) : Value := if b then .iface 101 (.pointer (some ⟨N + 2, 0, none⟩)) else .nilIface

/-- What lies in memory once the law has built it, and while drain goes through the calls (it has gone through j of n). -/
structure Mem (N n j : Nat) (cl : Bool) (w wr : World) (ef bf : Nat → Bool) : Prop where
  ctx0 : ∀ i, i < n → wr.cell? ⟨N + 5 + 2 * i, 0, none⟩ = some (errv N (ef i))
  ctx1 : ∀ i, i < n → wr.cell? ⟨N + 5 + 2 * i, 1, none⟩ = some (.int .i64 (if i < j then 1 else 0))
  ctxz : ∀ i, i < n → wr.frozen? ⟨N + 5 + 2 * i, 1, none⟩ = false
  call0 : ∀ i, i < n → wr.cell? ⟨N + 6 + 2 * i, 0, none⟩ = some (.iface 89 (.pointer (some ⟨N + 5 + 2 * i, 0, none⟩)))
  call1 : ∀ i, i < n → wr.cell? ⟨N + 6 + 2 * i, 1, none⟩ = some (.bool (if i < j then ef i else bf i))
  callz : ∀ i, i < n → wr.frozen? ⟨N + 6 + 2 * i, 1, none⟩ = false
  ctxs : ∀ i, i < n → wr.cell? ⟨N + 3, i, none⟩ = some (.pointer (some ⟨N + 5 + 2 * i, 0, none⟩))
  calls : ∀ i, i < n → wr.cell? ⟨N + 4, i, none⟩ = some (.pointer (some ⟨N + 6 + 2 * i, 0, none⟩))
  chan : wr.heap[N]? = some (.chan 0 #[] cl 0 0 false)
  drained : wr.cell? ⟨N + 1, 5, none⟩ = some (.chan (some N))
  bel : Below N w wr

theorem far {w : World} {b b' o o' : Nat} {v : Value} (h : b ≠ b' ∨ o ≠ o') : (w.setCell ⟨b, o, none⟩ v).cell? ⟨b', o', none⟩ = w.cell? ⟨b', o', none⟩ :=
  World.cell?_setCell_other _ _ _ _ (by intro e; injection e; omega)

theorem mem_step {N n j : Nat} {cl : Bool} {w wr : World} {ef bf : Nat → Bool} (h : Mem N n j cl w wr ef bf) (hj : j < n) :
    Mem N n (j + 1) cl w ((wr.setCell ⟨N + 5 + 2 * j, 1, none⟩ (.int .i64 1)).setCell ⟨N + 6 + 2 * j, 1, none⟩ (.bool (ef j))) ef bf where
  ctx0 i hi := by rw [far (by omega), far (by omega)]; exact h.ctx0 i hi
  ctx1 i hi := by
    rw [far (by omega)]
    by_cases e : i = j
    · subst e; rw [if_pos (by omega)]; exact World.cell?_setCell_same _ _ _ (h.ctx1 i hi)
    · rw [far (by omega), h.ctx1 i hi]
      by_cases c : i < j
      · rw [if_pos c, if_pos (by omega)]
      · rw [if_neg c, if_neg (by omega)]
  ctxz i hi := by simpa using h.ctxz i hi
  call0 i hi := by rw [far (by omega), far (by omega)]; exact h.call0 i hi
  call1 i hi := by
    by_cases e : i = j
    · subst e; rw [if_pos (by omega)]; exact World.cell?_setCell_same _ _ _ (by rw [far (by omega)]; exact h.call1 i hi)
    · rw [far (by omega), far (by omega), h.call1 i hi]
      by_cases c : i < j
      · rw [if_pos c, if_pos (by omega)]
      · rw [if_neg c, if_neg (by omega)]
  callz i hi := by simpa using h.callz i hi
  ctxs i hi := by rw [far (by omega), far (by omega)]; exact h.ctxs i hi
  calls i hi := by rw [far (by omega), far (by omega)]; exact h.calls i hi
  chan := by rw [Below.heap_setCell _ _ _ _ (by simp; omega), Below.heap_setCell _ _ _ _ (by simp; omega)]; exact h.chan
  drained := by rw [far (by omega), far (by omega)]; exact h.drained
  bel := (h.bel.setCell (by simp; omega) _).setCell (by simp; omega) _

theorem cell_setChan (w : World) (c cap : Nat) (buf : Array Value) (cl : Bool) (s r : Nat) (tm : Bool) (b o : Nat) (h : c ≠ b) : (w.setChan c cap buf cl s r tm).cell? ⟨b, o, none⟩ = w.cell? ⟨b, o, none⟩ :=
  World.cell?_of_block (w := w) (by simp only [World.setChan]; rw [Array.getElem?_setIfInBounds_ne h])

theorem frozen_setChan (w : World) (c cap : Nat) (buf : Array Value) (cl : Bool) (s r : Nat) (tm : Bool) (b o : Nat) (h : c ≠ b) : (w.setChan c cap buf cl s r tm).frozen? ⟨b, o, none⟩ = w.frozen? ⟨b, o, none⟩ :=
  World.frozen?_of_block (w := w) (by simp only [World.setChan]; rw [Array.getElem?_setIfInBounds_ne h])

theorem lt_of_block {w : World} {b : Nat} {o : Obj} (h : w.heap[b]? = some o) : b < w.heap.size := (Array.getElem?_eq_some_iff.1 h).1

/-- drain's last act: the channel is closed. -/
theorem mem_close {N n j : Nat} {w wr : World} {ef bf : Nat → Bool} (h : Mem N n j false w wr ef bf) : Mem N n j true w (wr.setChan N 0 #[] true 0 0 false) ef bf where
  ctx0 i hi := by rw [cell_setChan _ _ _ _ _ _ _ _ _ _ (by omega)]; exact h.ctx0 i hi
  ctx1 i hi := by rw [cell_setChan _ _ _ _ _ _ _ _ _ _ (by omega)]; exact h.ctx1 i hi
  ctxz i hi := by rw [frozen_setChan _ _ _ _ _ _ _ _ _ _ (by omega)]; exact h.ctxz i hi
  call0 i hi := by rw [cell_setChan _ _ _ _ _ _ _ _ _ _ (by omega)]; exact h.call0 i hi
  call1 i hi := by rw [cell_setChan _ _ _ _ _ _ _ _ _ _ (by omega)]; exact h.call1 i hi
  callz i hi := by rw [frozen_setChan _ _ _ _ _ _ _ _ _ _ (by omega)]; exact h.callz i hi
  ctxs i hi := by rw [cell_setChan _ _ _ _ _ _ _ _ _ _ (by omega)]; exact h.ctxs i hi
  calls i hi := by rw [cell_setChan _ _ _ _ _ _ _ _ _ _ (by omega)]; exact h.calls i hi
  chan := Go.Conc.heap_setChan _ _ _ _ _ _ _ _ (lt_of_block h.chan)
  drained := by rw [cell_setChan _ _ _ _ _ _ _ _ _ _ (by omega)]; exact h.drained
  bel := Go.Conc.below_setChan h.bel (Nat.le_refl _) _ _ _ _ _ _

/-- drain, where no shutdowns are noted. -/
theorem drain_zero (N n : Nat) (w wr : World) (ef bf : Nat → Bool) (h : Mem N n 0 false w wr ef bf) (hs : wr.cell? ⟨N + 1, 10, none⟩ = some (.pointer none)) :
    Calls Yba.prog 17 #[.pointer (some ⟨N + 1, 0, none⟩)] wr fun e w' => e = .returned (.tuple #[]) ∧ Mem N n 0 true w w' ef bf :=
  (drain_none (N + 1) N wr h.drained hs h.chan).mono fun e w' ⟨he, hw⟩ => ⟨he, by rw [hw]; exact mem_close h⟩

set_option maxRecDepth 100000 in
theorem drain_some (N n s : Nat) (w wr : World) (ef bf : Nat → Bool) (h : Mem N n 0 false w wr ef bf) (hs : wr.cell? ⟨N + 1, 10, none⟩ = some (.pointer (some ⟨s, 0, none⟩)))
    (hsh : wr.shape? s = some (99, 2)) (hcs : wr.cell? ⟨s, 1, none⟩ = some (.slice (some ⟨N + 4, 0, none⟩) n n)) (hn : n ≤ 1024) :
    Calls Yba.prog 17 #[.pointer (some ⟨N + 1, 0, none⟩)] wr fun e w' => e = .returned (.tuple #[]) ∧ Mem N n n true w w' ef bf := by
  go_enter Yba.func17, Yba.ntmps17
  go_wp2_with fail
  refine (load_some (N + 1) 10 s wr hs hsh).mono ?_
  rintro e w' ⟨rfl, rfl⟩
  have H0 := h
  clear h
  go_wp2
  clear hs hsh hcs
  go_loopw [16, 4] (fun i _ wx => ∃ j : Nat, j ≤ n ∧ i = .int .i64 j ∧ Mem N n j false w wx ef bf) (fun i _ _ => n - (intOf i).toNat)
  case atStart => exact ⟨0, Nat.zero_le _, rfl, H0⟩
  case round =>
    obtain ⟨j, hj, rfl, hM⟩ := hrel
    clear H0
    by_cases hlt : j < n
    · have g1 := hM.calls j hlt
      have g2 := hM.call0 j hlt
      have g3 := hM.ctx0 j hlt
      have g4 := hM.ctx1 j hlt
      rw [if_neg (by omega)] at g4
      have g5 := hM.ctxz j hlt
      have g6 := hM.call1 j hlt
      have g7 := hM.callz j hlt
      have hm := method_err ⟨N + 5 + 2 * j, 0, none⟩ wr
      have R := mem_step hM hlt
      clear hM
      cases he : ef j
      · rw [he] at g3 R
        simp only [errv, Bool.false_eq_true, if_false] at g3
        clear he
        go_wp2_with fail
        refine (err_calls (N + 5 + 2 * j) _ wr g3 g4 g5).mono ?_
        rintro e w' ⟨rfl, rfl⟩
        go_wp2
        go_roundw
        case rel => exact ⟨j + 1, by omega, by go_num, R⟩
        case measure => simp [intOf]; omega
      · rw [he] at g3 R
        simp only [errv, if_true] at g3
        clear he
        go_wp2_with fail
        refine (err_calls (N + 5 + 2 * j) _ wr g3 g4 g5).mono ?_
        rintro e w' ⟨rfl, rfl⟩
        go_wp2
        go_roundw
        case rel => exact ⟨j + 1, by omega, by go_num, R⟩
        case measure => simp [intOf]; omega
    · have hjn : j = n := by omega
      subst hjn
      have g1 := hM.drained
      have hcl : ∀ ats ty, (Builtin.close_ ats ty #[.chan (some N)]).run Yba.prog wr = .ok (.tuple #[]) (wr.setChan N 0 #[] true 0 0 false) := fun ats ty => run_close_open ats ty hM.chan
      go_wp2
      go_end0
      exact ⟨rfl, mem_close hM⟩
end Go.Proofs.Ybulkazkk.Marks
