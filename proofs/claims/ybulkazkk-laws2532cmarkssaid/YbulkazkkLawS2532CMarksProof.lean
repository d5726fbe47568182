import Derived.Test.YbulkazkkRows
import Derived.Test.YbulkazkkComm
import Derived.Test.YbulkazkkDrain
import Derived.WalkKit
import Derived.ProofKit
import Derived.OpenShut
import Derived.ShutString
import Derived.ChangeOld
import Derived.Below
import Derived.WalkSmall
import Derived.WalkLawsBesides
import Derived.WalkSpells
import Derived.Deep.Cut
import Derived.Deep.OwnRows
import Derived.Deep.Grids
namespace Go.Proofs.Ybulkazkk.lawS2532CMarks
open Go.ChangeShapes Go.WideShapes Go.ChangeAt Go.RowKit
open Go.Proofs.Ybulkazkk.Marks Go.Proofs.Ybulkazkk.Comm
set_option linter.unusedVariables false

theorem chan_info : ∃ i, Yba.prog.info? 35 = some i ∧ i.bytes = 0 := by
  obtain ⟨i, h1, h2⟩ := Option.map_eq_some_iff.1 (show (Yba.prog.info? 35).map (fun i => i.bytes) = some 0 from by kernel_rfl)
  exact ⟨i, h1, h2⟩

theorem mk_chan (w : World) : (Instr.makeChan 28 (.int .i64 0)).run Yba.prog w = .ok (.chan (some w.heap.size)) (w.alloc (.chan 0 #[] false 0 0 false)) := by
  obtain ⟨i, h1, h2⟩ := chan_info
  exact Go.Conc.run_makeChan (n := 0) Yba.underlying28 h1 .i64 (by omega) (by rw [h2]; omega)

/-- The cells of a new row of n nil pointers. -/
def nils (n : Nat) : Array Value := madeCells #[.pointer none] n
theorem nils_at (n i : Nat) (h : i < n) : (nils n)[i]? = some (.pointer none) := by
  unfold nils
  rw [← Array.getElem?_toList, toList_madeCells_one, List.getElem?_replicate, if_pos h]

theorem info89 : (Yba.prog.info? 89).map (fun i => (i.zero, i.size, i.bytes)) = some (some (.pointer none), 1, 8) := by kernel_rfl
theorem info92 : (Yba.prog.info? 92).map (fun i => (i.zero, i.size, i.bytes)) = some (some (.pointer none), 1, 8) := by kernel_rfl
theorem mk87 (n : Nat) (hn : n ≤ 1024) (w : World) :
    (Instr.makeSlice 87 (.int .i64 n) (.int .i64 n)).run Yba.prog w = .ok (.slice (some ⟨w.heap.size, 0, none⟩) n n) (w.alloc (.cells (nils n) 89)) :=
  run_make_row' 87 89 (.pointer none) 8 Yba.underlying87 info89 rfl .i64 .i64 n (by omega) (by omega) w
theorem mk88 (n : Nat) (hn : n ≤ 1024) (w : World) :
    (Instr.makeSlice 88 (.int .i64 n) (.int .i64 n)).run Yba.prog w = .ok (.slice (some ⟨w.heap.size, 0, none⟩) n n) (w.alloc (.cells (nils n) 92)) :=
  run_make_row' 88 92 (.pointer none) 8 Yba.underlying88 info92 rfl .i64 .i64 n (by omega) (by omega) w

theorem alloc_new (w : World) (o : Obj) : (w.alloc o).heap[w.heap.size]? = some o := by
  show (w.heap.push o)[w.heap.size]? = _
  simp

/-- While the law builds its contexts and calls: it has built k of n. -/
structure Built (N n k : Nat) (w wr : World) (ef bf : Nat → Bool) : Prop where
  size : wr.heap.size = N + 5 + 2 * k
  ctx0 : ∀ i, i < k → wr.cell? ⟨N + 5 + 2 * i, 0, none⟩ = some (errv N (ef i))
  ctx1 : ∀ i, i < k → wr.cell? ⟨N + 5 + 2 * i, 1, none⟩ = some (.int .i64 0)
  ctxz : ∀ i, i < k → wr.frozen? ⟨N + 5 + 2 * i, 1, none⟩ = false
  call0 : ∀ i, i < k → wr.cell? ⟨N + 6 + 2 * i, 0, none⟩ = some (.iface 89 (.pointer (some ⟨N + 5 + 2 * i, 0, none⟩)))
  call1 : ∀ i, i < k → wr.cell? ⟨N + 6 + 2 * i, 1, none⟩ = some (.bool (bf i))
  callz : ∀ i, i < k → wr.frozen? ⟨N + 6 + 2 * i, 1, none⟩ = false
  ctxs : ∀ i, i < n → wr.cell? ⟨N + 3, i, none⟩ = some (.pointer (if i < k then some ⟨N + 5 + 2 * i, 0, none⟩ else none))
  ctxsz : ∀ i, i < n → wr.frozen? ⟨N + 3, i, none⟩ = false
  calls : ∀ i, i < n → wr.cell? ⟨N + 4, i, none⟩ = some (.pointer (if i < k then some ⟨N + 6 + 2 * i, 0, none⟩ else none))
  callsz : ∀ i, i < n → wr.frozen? ⟨N + 4, i, none⟩ = false
  chan : wr.heap[N]? = some (.chan 0 #[] false 0 0 false)
  drained : wr.cell? ⟨N + 1, 5, none⟩ = some (.chan (some N))
  shut : wr.cell? ⟨N + 1, 10, none⟩ = some (.pointer none)
  shutz : wr.frozen? ⟨N + 1, 10, none⟩ = false
  bel : Below N w wr


/-- The world behind one round of the building loop. -/
def after (N k : Nat) (wr : World) (ev : Value) (bv : Bool) : World :=
  (((wr.setCell ⟨N + 3, k, none⟩ (.pointer (some ⟨N + 5 + 2 * k, 0, none⟩))).setCell ⟨N + 4, k, none⟩ (.pointer (some ⟨N + 5 + 2 * k + 1, 0, none⟩))).alloc (.cells #[ev, .int .i64 0] 91)).alloc
    (.cells #[.iface 89 (.pointer (some ⟨N + 5 + 2 * k, 0, none⟩)), .bool bv] 96)

theorem after_size (N k : Nat) (wr : World) (ev : Value) (bv : Bool) : (after N k wr ev bv).heap.size = wr.heap.size + 2 := by simp [after]
theorem after_old {N k : Nat} {wr : World} {ev : Value} {bv : Bool} {b o : Nat} (hb : b < wr.heap.size) (h3 : b ≠ N + 3 ∨ o ≠ k) (h4 : b ≠ N + 4 ∨ o ≠ k) : (after N k wr ev bv).cell? ⟨b, o, none⟩ = wr.cell? ⟨b, o, none⟩ := by
  unfold after
  rw [World.cell?_alloc_past _ _ _ (by simp; omega), World.cell?_alloc_past _ _ _ (by simp; omega), far (by omega), far (by omega)]
theorem after_frozen {N k : Nat} {wr : World} {ev : Value} {bv : Bool} {b o : Nat} (hb : b < wr.heap.size) : (after N k wr ev bv).frozen? ⟨b, o, none⟩ = wr.frozen? ⟨b, o, none⟩ := by
  unfold after
  rw [World.frozen?_alloc_past _ _ _ (by simp; omega), World.frozen?_alloc_past _ _ _ (by simp; omega)]
  simp
theorem after_3 {N k : Nat} {wr : World} {ev : Value} {bv : Bool} {v : Value} (hb : N + 3 < wr.heap.size) (h : wr.cell? ⟨N + 3, k, none⟩ = some v) : (after N k wr ev bv).cell? ⟨N + 3, k, none⟩ = some (.pointer (some ⟨N + 5 + 2 * k, 0, none⟩)) := by
  unfold after
  rw [World.cell?_alloc_past _ _ _ (by simp; omega), World.cell?_alloc_past _ _ _ (by simp; omega), far (by omega)]
  exact World.cell?_setCell_same _ _ _ h
theorem after_4 {N k : Nat} {wr : World} {ev : Value} {bv : Bool} {v : Value} (hb : N + 4 < wr.heap.size) (h : wr.cell? ⟨N + 4, k, none⟩ = some v) : (after N k wr ev bv).cell? ⟨N + 4, k, none⟩ = some (.pointer (some ⟨N + 5 + 2 * k + 1, 0, none⟩)) := by
  unfold after
  rw [World.cell?_alloc_past _ _ _ (by simp; omega), World.cell?_alloc_past _ _ _ (by simp; omega)]
  exact World.cell?_setCell_same _ _ _ (by rw [far (by omega)]; exact h)
theorem after_ctx {N k : Nat} {wr : World} {ev : Value} {bv : Bool} {b o : Nat} (hb : b = wr.heap.size) : (after N k wr ev bv).cell? ⟨b, o, none⟩ = (#[ev, .int .i64 0] : Array Value)[o]? := by
  unfold after
  rw [World.cell?_alloc_past _ _ _ (by simp; omega), World.cell?_alloc_at _ _ _ _ (by simp; omega)]
theorem after_ctxz {N k : Nat} {wr : World} {ev : Value} {bv : Bool} {b o : Nat} (hb : b = wr.heap.size) : (after N k wr ev bv).frozen? ⟨b, o, none⟩ = false := by
  unfold after
  rw [World.frozen?_alloc_past _ _ _ (by simp; omega), World.frozen?_alloc_at _ _ _ _ (by simp; omega)]
theorem after_call {N k : Nat} {wr : World} {ev : Value} {bv : Bool} {b o : Nat} (hb : b = wr.heap.size + 1) : (after N k wr ev bv).cell? ⟨b, o, none⟩ = (#[.iface 89 (.pointer (some ⟨N + 5 + 2 * k, 0, none⟩)), .bool bv] : Array Value)[o]? := by
  unfold after
  rw [World.cell?_alloc_at _ _ _ _ (by simp; omega)]
theorem after_callz {N k : Nat} {wr : World} {ev : Value} {bv : Bool} {b o : Nat} (hb : b = wr.heap.size + 1) : (after N k wr ev bv).frozen? ⟨b, o, none⟩ = false := by
  unfold after
  rw [World.frozen?_alloc_at _ _ _ _ (by simp; omega)]

theorem built_step {N n k : Nat} {w wr : World} {ef bf : Nat → Bool} (h : Built N n k w wr ef bf) (hk : k < n) : Built N n (k + 1) w (after N k wr (errv N (ef k)) (bf k)) ef bf := by
  have hs := h.size
  refine { size := by rw [after_size]; omega, ctx0 := fun i hi => ?_, ctx1 := fun i hi => ?_, ctxz := fun i hi => ?_, call0 := fun i hi => ?_, call1 := fun i hi => ?_, callz := fun i hi => ?_, ctxs := fun i hi => ?_, ctxsz := fun i hi => ?_, calls := fun i hi => ?_, callsz := fun i hi => ?_, chan := ?_, drained := ?_, shut := ?_, shutz := ?_, bel := ?_ }
  · by_cases e : i = k
    · subst e; rw [after_ctx (by omega)]; rfl
    · rw [after_old (by omega) (by omega) (by omega)]; exact h.ctx0 i (by omega)
  · by_cases e : i = k
    · subst e; rw [after_ctx (by omega)]; rfl
    · rw [after_old (by omega) (by omega) (by omega)]; exact h.ctx1 i (by omega)
  · by_cases e : i = k
    · subst e; rw [after_ctxz (by omega)]
    · rw [after_frozen (by omega)]; exact h.ctxz i (by omega)
  · by_cases e : i = k
    · subst e; rw [after_call (by omega)]; rfl
    · rw [after_old (by omega) (by omega) (by omega)]; exact h.call0 i (by omega)
  · by_cases e : i = k
    · subst e; rw [after_call (by omega)]; rfl
    · rw [after_old (by omega) (by omega) (by omega)]; exact h.call1 i (by omega)
  · by_cases e : i = k
    · subst e; rw [after_callz (by omega)]
    · rw [after_frozen (by omega)]; exact h.callz i (by omega)
  · by_cases e : i = k
    · subst e; rw [after_3 (by omega) (h.ctxs i hi), if_pos (by omega)]
    · rw [after_old (by omega) (by omega) (by omega), h.ctxs i hi]
      by_cases c : i < k
      · rw [if_pos c, if_pos (by omega)]
      · rw [if_neg c, if_neg (by omega)]
  · rw [after_frozen (by omega)]; exact h.ctxsz i hi
  · by_cases e : i = k
    · subst e; rw [after_4 (by omega) (h.calls i hi), if_pos (by omega), show N + 5 + 2 * i + 1 = N + 6 + 2 * i by omega]
    · rw [after_old (by omega) (by omega) (by omega), h.calls i hi]
      by_cases c : i < k
      · rw [if_pos c, if_pos (by omega)]
      · rw [if_neg c, if_neg (by omega)]
  · rw [after_frozen (by omega)]; exact h.callsz i hi
  · unfold after
    rw [Below.heap_alloc _ _ _ (by simp; omega), Below.heap_alloc _ _ _ (by simp; omega), Below.heap_setCell _ _ _ _ (by simp), Below.heap_setCell _ _ _ _ (by simp)]
    exact h.chan
  · rw [after_old (by omega) (by omega) (by omega)]; exact h.drained
  · rw [after_old (by omega) (by omega) (by omega)]; exact h.shut
  · rw [after_frozen (by omega)]; exact h.shutz
  · exact (((h.bel.setCell (by simp) _).setCell (by simp) _).alloc (by simp; omega) _).alloc (by simp; omega) _

/-- All is built. -/
theorem built_mem {N n : Nat} {w wr : World} {ef bf : Nat → Bool} (h : Built N n n w wr ef bf) : Mem N n 0 false w wr ef bf where
  ctx0 := h.ctx0
  ctx1 i hi := by rw [if_neg (by omega)]; exact h.ctx1 i hi
  ctxz := h.ctxz
  call0 := h.call0
  call1 i hi := by rw [if_neg (by omega)]; exact h.call1 i hi
  callz := h.callz
  ctxs i hi := by have := h.ctxs i hi; rwa [if_pos hi] at this
  calls i hi := by have := h.calls i hi; rwa [if_pos hi] at this
  chan := h.chan
  drained := h.drained
  bel := h.bel

/-- The notes are stored. -/
theorem mem_noted {N n : Nat} {w wr : World} {ef bf : Nat → Bool} {o : Obj} {v : Value} (h : Mem N n 0 false w wr ef bf) (hs : wr.heap.size = N + 5 + 2 * n) : Mem N n 0 false w ((wr.alloc o).setCell ⟨N + 1, 10, none⟩ v) ef bf where
  ctx0 i hi := by rw [far (by omega), World.cell?_alloc_past _ _ _ (by omega)]; exact h.ctx0 i hi
  ctx1 i hi := by rw [far (by omega), World.cell?_alloc_past _ _ _ (by omega)]; exact h.ctx1 i hi
  ctxz i hi := by rw [World.frozen?_setCell, World.frozen?_alloc_past _ _ _ (by omega)]; exact h.ctxz i hi
  call0 i hi := by rw [far (by omega), World.cell?_alloc_past _ _ _ (by omega)]; exact h.call0 i hi
  call1 i hi := by rw [far (by omega), World.cell?_alloc_past _ _ _ (by omega)]; exact h.call1 i hi
  callz i hi := by rw [World.frozen?_setCell, World.frozen?_alloc_past _ _ _ (by omega)]; exact h.callz i hi
  ctxs i hi := by rw [far (by omega), World.cell?_alloc_past _ _ _ (by omega)]; exact h.ctxs i hi
  calls i hi := by rw [far (by omega), World.cell?_alloc_past _ _ _ (by omega)]; exact h.calls i hi
  chan := by rw [Below.heap_setCell _ _ _ _ (by simp), Below.heap_alloc _ _ _ (by omega)]; exact h.chan
  drained := by rw [far (by omega), World.cell?_alloc_past _ _ _ (by omega)]; exact h.drained
  bel := (h.bel.alloc (by omega) _).setCell (by simp) _

/-- What the walk is told of a slice of bools that came in. -/
def Arg (w : World) (a : Option Addr) (len : Nat) (f : Nat → Bool) : Prop :=
  len = 0 ∨ ∃ b o, a = some ⟨b, o, none⟩ ∧ b < w.heap.size ∧ ∀ i, i < len → w.cell? ⟨b, o + i, none⟩ = some (.bool (f i))

set_option maxHeartbeats 1600000 in
set_option maxRecDepth 100000 in
theorem walk (a0 : Option Addr) (len0 cap0 : Nat) (a1 : Option Addr) (len1 cap1 : Nat) (nt : Bool) (ef bg : Nat → Bool) (w : World) (hn : len0 ≤ 1024) (hl1 : len1 ≤ maxLen)
    (h0 : Arg w a0 len0 ef) (h1 : Arg w a1 len1 bg) :
    Calls Yba.prog 7 #[.slice a0 len0 cap0, .slice a1 len1 cap1, .bool nt] w fun e w' => e = .returned (.bool true) ∧ Below w.heap.size w w' := by
  have hmc := mk_chan
  have hm1 := mk87 len0 hn
  have hm2 := mk88 len0 hn
  have hb1 : ¬ (1024 : Int) < len0 := by omega
  unfold maxLen at hl1
  have H0 : Hid (Arg w a0 len0 ef) := h0
  have H1 : Hid (Arg w a1 len1 bg) := h1
  clear h0 h1
  go_enter Yba.func7, Yba.ntmps7
  go_wp2
  clear hmc hm1 hm2
  go_loopw [11] (fun i wr => ∃ k : Nat, k ≤ len0 ∧ i = .int .i64 k ∧ Built w.heap.size len0 k w wr ef (fun i => decide (i < len1) && bg i)) (fun i _ => len0 - (intOf i).toNat)
  case atStart =>
    refine ⟨0, Nat.zero_le _, rfl, { size := by simp, ctx0 := fun i hi => by omega, ctx1 := fun i hi => by omega, ctxz := fun i hi => by omega, call0 := fun i hi => by omega, call1 := fun i hi => by omega, callz := fun i hi => by omega, ctxs := fun i hi => ?_, ctxsz := fun i hi => ?_, calls := fun i hi => ?_, callsz := fun i hi => ?_, chan := ?_, drained := ?_, shut := ?_, shutz := ?_, bel := ?_ }⟩
    · rw [World.cell?_alloc_past _ _ _ (by simp), World.cell?_alloc_at _ _ _ _ (by simp), if_neg (by omega)]; exact nils_at _ _ hi
    · rw [World.frozen?_alloc_past _ _ _ (by simp), World.frozen?_alloc_at _ _ _ _ (by simp)]
    · rw [World.cell?_alloc_at _ _ _ _ (by simp), if_neg (by omega)]; exact nils_at _ _ hi
    · rw [World.frozen?_alloc_at _ _ _ _ (by simp)]
    · rw [Below.heap_alloc _ _ _ (by simp; omega), Below.heap_alloc _ _ _ (by simp; omega), Below.heap_alloc _ _ _ (by simp; omega), Below.heap_alloc _ _ _ (by simp)]
      exact alloc_new w _
    · rw [World.cell?_alloc_past _ _ _ (by simp), World.cell?_alloc_past _ _ _ (by simp), World.cell?_alloc_past _ _ _ (by simp), World.cell?_alloc_at _ _ _ _ (by simp)]; rfl
    · rw [World.cell?_alloc_past _ _ _ (by simp), World.cell?_alloc_past _ _ _ (by simp), World.cell?_alloc_past _ _ _ (by simp), World.cell?_alloc_at _ _ _ _ (by simp)]; rfl
    · rw [World.frozen?_alloc_past _ _ _ (by simp), World.frozen?_alloc_past _ _ _ (by simp), World.frozen?_alloc_past _ _ _ (by simp), World.frozen?_alloc_at _ _ _ _ (by simp)]
    · exact (((((Below.refl _ _).alloc (Nat.le_refl _) _).alloc (by simp) _).alloc (by simp; omega) _).alloc (by simp; omega) _).alloc (by simp; omega) _
  case round =>
    obtain ⟨k, hk, rfl, hB⟩ := hrel
    by_cases hlt : k < len0
    · rcases H0.out with h | ⟨be, oe, rfl, hbe, hce⟩
      · omega
      · have ge : wr.cell? ⟨be, oe + k, none⟩ = some (.bool (ef k)) := (hB.bel.cell (by exact hbe)).trans (hce k hlt)
        clear hce
        have hsz := hB.size
        have hq0 : be < w.heap.size + 5 + 2 * k := by omega
        have hq1 : w.heap.size + 1 + 1 + 1 < w.heap.size + 5 + 2 * k := by omega
        have hq2 : w.heap.size + 1 + 1 + 1 + 1 < w.heap.size + 5 + 2 * k := by omega
        have hq3 : w.heap.size + 1 + 1 + 1 + 1 < w.heap.size + 5 + 2 * k + 1 := by omega
        have g1 : wr.cell? ⟨w.heap.size + 1 + 1 + 1, k, none⟩ = some (.pointer none) := by have := hB.ctxs k hlt; rw [if_neg (by omega)] at this; exact this
        have g2 : wr.frozen? ⟨w.heap.size + 1 + 1 + 1, k, none⟩ = false := hB.ctxsz k hlt
        have g3 : wr.cell? ⟨w.heap.size + 1 + 1 + 1 + 1, k, none⟩ = some (.pointer none) := by have := hB.calls k hlt; rw [if_neg (by omega)] at this; exact this
        have g4 : wr.frozen? ⟨w.heap.size + 1 + 1 + 1 + 1, k, none⟩ = false := hB.callsz k hlt
        by_cases hkb : k < len1
        · rcases H1.out with h | ⟨bb, ob, rfl, hbb, hcb⟩
          · omega
          · have gb : wr.cell? ⟨bb, ob + k, none⟩ = some (.bool (bg k)) := (hB.bel.cell (by exact hbb)).trans (hcb k hkb)
            clear hcb
            have hq4 : bb < w.heap.size + 5 + 2 * k := by omega
            cases hek : ef k
            · have R : Built w.heap.size len0 (k + 1) w (after w.heap.size k wr (.nilIface) (bg k)) ef (fun i => decide (i < len1) && bg i) := by
                have := built_step hB hlt
                simpa [errv, hek, hkb] using this
              rw [hek] at ge
              clear hB hek
              go_wp2
              go_roundw
              case rel => exact ⟨k + 1, by omega, by go_num, R⟩
              case measure => simp [intOf]; omega
            · have R : Built w.heap.size len0 (k + 1) w (after w.heap.size k wr (.iface 101 (.pointer (some ⟨w.heap.size + 2, 0, none⟩))) (bg k)) ef (fun i => decide (i < len1) && bg i) := by
                have := built_step hB hlt
                simpa [errv, hek, hkb] using this
              rw [hek] at ge
              clear hB hek
              go_wp2
              go_roundw
              case rel => exact ⟨k + 1, by omega, by go_num, R⟩
              case measure => simp [intOf]; omega
        · cases hek : ef k
          · have R : Built w.heap.size len0 (k + 1) w (after w.heap.size k wr (.nilIface) (false)) ef (fun i => decide (i < len1) && bg i) := by
              have := built_step hB hlt
              simpa [errv, hek, hkb] using this
            rw [hek] at ge
            clear hB hek
            go_wp2
            go_roundw
            case rel => exact ⟨k + 1, by omega, by go_num, R⟩
            case measure => simp [intOf]; omega
          · have R : Built w.heap.size len0 (k + 1) w (after w.heap.size k wr (.iface 101 (.pointer (some ⟨w.heap.size + 2, 0, none⟩))) (false)) ef (fun i => decide (i < len1) && bg i) := by
              have := built_step hB hlt
              simpa [errv, hek, hkb] using this
            rw [hek] at ge
            clear hB hek
            go_wp2
            go_roundw
            case rel => exact ⟨k + 1, by omega, by go_num, R⟩
            case measure => simp [intOf]; omega
    · have hkn : k = len0 := by omega
      subst hkn
      have hsz := hB.size
      have hM := built_mem hB
      have hsh := hB.shut
      have hshz := hB.shutz
      cases nt
      · have hMz := hM
        clear hM hB
        go_wp2_with fail
        refine (drain_zero w.heap.size k w wr ef _ hMz hsh).mono ?_
        rintro e w3 ⟨rfl, hM3⟩
        clear hMz hsh hshz hsz
        have gd := hM3.drained
        go_upto_region 22 with fail
        refine wp_region_comm [] _ _ rfl ?_
        apply wpList_nil
        refine then_comm [] _ _ rfl (took_select_recv_shut (c := w.heap.size) (z := .agg #[]) rfl (by simp [go_sem, execOp, Go.Conc.rcase, Act.eval]) hM3.chan) ?_
        go_wp2
        clear gd
        go_loop [14] (fun i => ∃ m : Nat, m ≤ k ∧ i = .int .i64 m) (fun i => k - (intOf i).toNat)
        case atStart => exact ⟨0, Nat.zero_le _, rfl⟩
        case round =>
          obtain ⟨m, hm, rfl⟩ := hrel
          by_cases hlt2 : m < k
          · have g1 : w3.cell? ⟨w.heap.size + 1 + 1 + 1 + 1, m, none⟩ = some (.pointer (some ⟨w.heap.size + 6 + 2 * m, 0, none⟩)) := hM3.calls m hlt2
            have g2 := hM3.call1 m hlt2
            have g3 : w3.cell? ⟨w.heap.size + 1 + 1 + 1, m, none⟩ = some (.pointer (some ⟨w.heap.size + 5 + 2 * m, 0, none⟩)) := hM3.ctxs m hlt2
            have g4 := hM3.ctx1 m hlt2
            rw [if_neg (by omega)] at g2 g4
            by_cases hmb : m < len1
            · rcases H1.out with h | ⟨bb, ob, rfl, hbb, hcb⟩
              · omega
              · have gb : w3.cell? ⟨bb, ob + m, none⟩ = some (.bool (bg m)) := (hM3.bel.cell (by exact hbb)).trans (hcb m hmb)
                simp only [hmb, decide_true, Bool.true_and] at g2
                clear hcb
                go_wp2
                go_round
                case rel => exact ⟨m + 1, by omega, by go_num⟩
                case measure => simp [intOf]; omega
            · simp only [hmb, decide_false, Bool.false_and] at g2
              go_wp2
              go_round
              case rel => exact ⟨m + 1, by omega, by go_num⟩
              case measure => simp [intOf]; omega
          · go_wp2
            go_ret
            exact ⟨rfl, hM3.bel⟩
      · have hMz := hM
        clear hM hB
        go_wp2_with fail
        have hq : w.heap.size + 1 < wr.heap.size := by omega
        refine (store_calls (w.heap.size + 1) 10 (w.heap.size + 5 + 2 * k) (.pointer none) (.bool false) _ ?_ ?_ ?_).mono ?_
        · rw [World.cell?_alloc_past _ _ _ hq]; exact hsh
        · rw [World.frozen?_alloc_past _ _ _ hq]; exact hshz
        · rw [World.cell?_alloc_at _ _ _ _ hsz.symm]; rfl
        rintro e w2 ⟨rfl, hw2⟩
        have hM2 : Mem w.heap.size k 0 false w w2 ef (fun i => decide (i < len1) && bg i) := by rw [hw2]; exact mem_noted hMz hsz
        have hs2 : w2.cell? ⟨w.heap.size + 1, 10, none⟩ = some (.pointer (some ⟨w.heap.size + 5 + 2 * k, 0, none⟩)) := by
          rw [hw2]; exact World.cell?_setCell_same _ _ _ (u := .pointer none) (by rw [World.cell?_alloc_past _ _ _ hq]; exact hsh)
        have hb2 : w2.heap[w.heap.size + 5 + 2 * k]? = some (.cells #[.bool false, .slice (some ⟨w.heap.size + 4, 0, none⟩) k k] 99) := by
          rw [hw2, Below.heap_setCell _ _ _ _ (by simp; omega), ← hsz]; exact alloc_new wr _
        have hsh2 : w2.shape? (w.heap.size + 5 + 2 * k) = some (99, 2) := by simp [World.shape?, hb2]
        have hcs2 : w2.cell? ⟨w.heap.size + 5 + 2 * k, 1, none⟩ = some (.slice (some ⟨w.heap.size + 4, 0, none⟩) k k) := by simp [World.cell?, hb2]
        clear hw2 hb2 hMz hsh hshz hsz hq
        go_wp2_with fail
        refine (drain_some w.heap.size k _ w w2 ef _ hM2 hs2 hsh2 hcs2 hn).mono ?_
        rintro e w3 ⟨rfl, hM3⟩
        clear hM2 hs2 hsh2 hcs2
        have gd := hM3.drained
        go_upto_region 22 with fail
        refine wp_region_comm [] _ _ rfl ?_
        apply wpList_nil
        refine then_comm [] _ _ rfl (took_select_recv_shut (c := w.heap.size) (z := .agg #[]) rfl (by simp [go_sem, execOp, Go.Conc.rcase, Act.eval]) hM3.chan) ?_
        go_wp2
        clear gd
        go_loop [14] (fun i => ∃ m : Nat, m ≤ k ∧ i = .int .i64 m) (fun i => k - (intOf i).toNat)
        case atStart => exact ⟨0, Nat.zero_le _, rfl⟩
        case round =>
          obtain ⟨m, hm, rfl⟩ := hrel
          by_cases hlt2 : m < k
          · have g1 : w3.cell? ⟨w.heap.size + 1 + 1 + 1 + 1, m, none⟩ = some (.pointer (some ⟨w.heap.size + 6 + 2 * m, 0, none⟩)) := hM3.calls m hlt2
            have g2 := hM3.call1 m hlt2
            have g3 : w3.cell? ⟨w.heap.size + 1 + 1 + 1, m, none⟩ = some (.pointer (some ⟨w.heap.size + 5 + 2 * m, 0, none⟩)) := hM3.ctxs m hlt2
            have g4 := hM3.ctx1 m hlt2
            rw [if_pos hlt2] at g2 g4
            rcases H0.out with h | ⟨be, oe, rfl, hbe, hce⟩
            · omega
            · have ge : w3.cell? ⟨be, oe + m, none⟩ = some (.bool (ef m)) := (hM3.bel.cell (by exact hbe)).trans (hce m hlt2)
              clear hce
              go_wp2
              go_round
              case rel => exact ⟨m + 1, by omega, by go_num⟩
              case measure => simp [intOf]; omega
          · go_wp2
            go_ret
            exact ⟨rfl, hM3.bel⟩
theorem own : ownKnob Yba.prog.godebug = none := by kernel_rfl
theorem laidOut : laidOutB Yba.prog = true := by kernel_rfl
theorem cells4 : Yba.prog.cellsOf 4 = 1 := by kernel_rfl

theorem lt_of_cell {w : World} {b o : Nat} {v : Value} (h : w.cell? ⟨b, o, none⟩ = some v) : b < w.heap.size := by
  by_cases hb : b < w.heap.size
  · exact hb
  · simp [World.cell?, Array.getElem?_eq_none (by omega : w.heap.size ≤ b)] at h

theorem arg_of {H : Type} {enc : TypeId × Value → H} {W : World} {a : Option Addr} {len cap : Nat} {d : DataW H} {p : List MemPlace}
    (h : DataW.Trod enc Yba.prog W 0 (fun _ => true) true 64 (.slice a len cap) d p) : ∃ f, len ≤ maxLen ∧ Arg W a len f := by
  obtain ⟨fuel, hf⟩ := h
  rcases Go.Deep.open_bools Yba.underlying64 Yba.underlying4 cells4 hf with ⟨hcs, _⟩ | ⟨x, l, c, B, hcs, _, hl, hm, _, hcell⟩
  · simp [Value.cells] at hcs
    obtain ⟨rfl, rfl, rfl⟩ := hcs
    exact ⟨fun _ => false, by simp, .inl rfl⟩
  · simp [Value.cells] at hcs
    obtain ⟨rfl, rfl, rfl⟩ := hcs
    refine ⟨B, by omega, ?_⟩
    by_cases h0 : len = 0
    · exact .inl h0
    · obtain ⟨b, o, spot⟩ := x
      have hspot : spot = none := by simpa [Addr.add] using World.cell?_spot (hcell 0 (by omega))
      subst hspot
      have hc2 : ∀ i, i < cap → W.cell? ⟨b, o + i, none⟩ = some (.bool (B i)) := fun i hi => by rw [← Go.WideShapes.add_plain]; exact hcell i hi
      exact .inr ⟨b, o, rfl, lt_of_cell (hc2 0 (by omega)), fun i hi => hc2 i (by omega)⟩

theorem walk_all (a0 : Option Addr) (len0 cap0 : Nat) (a1 : Option Addr) (len1 cap1 : Nat) (nt : Bool) (ef bg : Nat → Bool) (w : World) (hl1 : len1 ≤ maxLen)
    (h0 : Arg w a0 len0 ef) (h1 : Arg w a1 len1 bg) :
    Calls Yba.prog 7 #[.slice a0 len0 cap0, .slice a1 len1 cap1, .bool nt] w fun e w' => e = .returned (.bool true) ∧ Below w.heap.size w w' := by
  by_cases hn : len0 ≤ 1024
  · exact walk a0 len0 cap0 a1 len1 cap1 nt ef bg w hn hl1 h0 h1
  · have hb1 : (1024 : Int) < len0 := by omega
    clear h0 h1
    go_enter Yba.func7, Yba.ntmps7
    go_wp2
    go_ret
    exact ⟨rfl, Below.refl _ _⟩

/-! ### THE ROW's STEP: WRITTEN OUT: LEAVE IT -/
set_option maxRecDepth 100000 in
theorem lifted (os : Os) (started : os.Started) (H : Type) (enc : TypeId × Value → H) :
    ReturnsInHanded {} Yba.checked os 7 .any (Rows.lawS2532CMarksSpec.pre6 enc Yba.prog Yba.f7 Rows.lawS2532CMarksRow.domain false) (Rows.lawS2532CMarksSpec.post enc Yba.prog Yba.f7 false true false false) := by
  refine returnsInHanded_of_change (C := Yba.checked) own started (by kernel_rfl) Yba.func7
    (ChangeSpec.witness6 (enc := enc) (C := Yba.checked) false ⟨#[], #[.slice none 0 0, .slice none 0 0, .bool false], []⟩ 8 (by kernel_rfl) (by kernel_rfl) (by kernel_rfl) (by kernel_rfl)) ?_
  intro W base args ds gs before hval0 hW hcnd _
  have hval : ∀ (j : Nat) t v, Yba.f7.params[j]? = some t → args[j]? = some v → Value.okWide Yba.prog W .any base t v := hval0
  have hW' := hW
  obtain ⟨p, q, hA0, hV, rfl, hfz, hnd⟩ := hW
  have hA : DataW.TrodAll enc Yba.prog W 0 (fun _ => true) true Yba.f7.params.toList args.toList ds p := hA0
  rw [Yba.params7] at hA hval
  obtain ⟨v0, vs0, d0, ds0, p0, q0, hargs, rfl, rfl, h0, r0⟩ := trodAll_cons hA
  obtain ⟨v1, vs1, d1, ds1, p1, q1, rfl, rfl, rfl, h1, r1⟩ := trodAll_cons r0
  obtain ⟨v2, vs2, d2, ds2, p2, q2, rfl, rfl, rfl, h2, r2⟩ := trodAll_cons r1
  obtain ⟨rfl, rfl, rfl⟩ := trodAll_nil r2
  obtain rfl : args = #[v0, v1, v2] := by cases args; simp_all
  obtain ⟨rfl, rfl⟩ := trodVars_none hV
  obtain ⟨a0, len0, cap0, rfl⟩ := okWide_slice Yba.underlying64 (hval 0 64 v0 rfl rfl)
  obtain ⟨a1, len1, cap1, rfl⟩ := okWide_slice Yba.underlying64 (hval 1 64 v1 rfl rfl)
  have k0 := h0
  have k1 := h1
  have lt0 : ∀ x ∈ p0, x.block < W.heap.size := by obtain ⟨m, hm⟩ := k0; exact DataW.trod_lt m _ _ _ hm
  have lt1 : ∀ x ∈ p1, x.block < W.heap.size := by obtain ⟨m, hm⟩ := k1; exact DataW.trod_lt m _ _ _ hm
  obtain ⟨ef, hm0, A0⟩ := arg_of h0
  obtain ⟨bg, hm1, A1⟩ := arg_of h1
  obtain ⟨b2, rfl, rfl, rfl⟩ := open_bool Yba.underlying4 (hval 2 4 v2 rfl rfl) h2
  clear hA0 hval0
  refine (walk_all a0 len0 cap0 a1 len1 cap1 b2 ef bg W hm1 A0 A1).mono fun e W' ⟨he, bel⟩ => ?_
  subst he
  exact ⟨_, rfl, _, _, _, [], _, [], hW', trodAll_mk1 (shut_bool Yba.underlying4 _), (trodAll_cons_mk (Below.trod laidOut (by kernel_rfl) (of_decide_eq_true (by kernel_rfl)) k0 bel lt0) (trodAll_cons_mk (Below.trod laidOut (by kernel_rfl) (of_decide_eq_true (by kernel_rfl)) k1 bel lt1) (trodAll_cons_mk (shut_bool Yba.underlying4 _) trodAll_mk0))), rfl, bel.frame _, fun h => by cases h⟩

theorem over : Rows.lawS2532CMarksRow.holds Yba.pinned (OpenSpec.ofChange Rows.lawS2532CMarksSpec) :=
  OpenClaim.holds_of_wide 7 Yba.f7 rfl rfl rfl rfl rfl rfl rfl ⟨rfl, rfl, rfl, rfl, rfl⟩ rfl rfl rfl rfl rfl (by kernel_rfl) Yba.func7 (by kernel_rfl)
    (of_decide_eq_true (by kernel_rfl)) (by unfold Func.isWrapper; first | (rw [if_pos (by decide +kernel)]; kernel_rfl) | (rw [if_neg (by decide +kernel)]; exact ⟨rfl, rfl⟩))
    (fun os started H enc _ => lifted os started H enc)

/-- ████ THE STATEMENT ████ -/
theorem proved : Rows.LawS2532CMarksSaid := over
#print axioms proved
end Go.Proofs.Ybulkazkk.lawS2532CMarks
