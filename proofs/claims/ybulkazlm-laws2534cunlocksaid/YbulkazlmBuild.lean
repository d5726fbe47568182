import Derived.Test.YbulkazlmPass
namespace Go.Proofs.Ybulkazlm.Wake
open Go.ChangeShapes Go.WideShapes Go.RowKit
open Go.Proofs.Ybulkazlm.Comm
set_option linter.unusedVariables false

theorem chan_info : ∃ i, Yba.prog.info? 27 = some i ∧ i.bytes = 0 := by
  obtain ⟨i, h1, h2⟩ := Option.map_eq_some_iff.1 (show (Yba.prog.info? 27).map (fun i => i.bytes) = some 0 from by kernel_rfl)
  exact ⟨i, h1, h2⟩

theorem mk_chan (w : World) : (Instr.makeChan 40 (.int .i64 1)).run Yba.prog w = .ok (.chan (some w.heap.size)) (w.alloc (.chan 1 #[] false 0 0 false)) := by
  obtain ⟨i, h1, h2⟩ := chan_info
  exact Go.Conc.run_makeChan (n := 1) Yba.underlying40 h1 .i64 (by omega) (by rw [h2]; omega)

/-- What the walks need of the zero Chan's cells. -/
structure Zero (cs : Array Value) : Prop where
  run : ∀ w, (zeroValue 52).run Yba.prog w = .ok (.agg cs) w
  size : 129 ≤ cs.size
  tail : cs[0]? = some (.int .i64 0)
  head : cs[57]? = some (.int .i64 0)
  hseg : cs[116]? = some (.pointer none)
  closed : cs[117]? = some (.int .u32 0)
  waiting : cs[120]? = some (.int .i32 0)
  mu : cs[122]? = some (.int .i32 0)
  sema : cs[123]? = some (.int .u32 0)
  pump : cs[125]? = some (.pointer none)

def pick (v : Value) : Bool × Option Value × Option Value × Option Value × Option Value × Option Value × Option Value × Option Value × Option Value :=
  match v with
  | .agg cs => (decide (129 ≤ cs.size), cs[0]?, cs[57]?, cs[116]?, cs[117]?, cs[120]?, cs[122]?, cs[123]?, cs[125]?)
  | _ => (false, none, none, none, none, none, none, none, none)

theorem info52 : (Yba.prog.info? 52).map (fun i => i.zero.map pick) = some (some (true, some (.int .i64 0), some (.int .i64 0), some (.pointer none), some (.int .u32 0), some (.int .i32 0), some (.int .i32 0), some (.int .u32 0), some (.pointer none))) := by kernel_rfl

theorem zero52 : ∃ cs, Zero cs := by
  obtain ⟨i, hi, hz⟩ := Option.map_eq_some_iff.1 info52
  obtain ⟨z, hz1, hz2⟩ := Option.map_eq_some_iff.1 hz
  unfold pick at hz2
  split at hz2
  · rename_i cs
    simp only [Prod.mk.injEq] at hz2
    obtain ⟨h0, h1, h2, h3, h4, h5, h6, h7, h8⟩ := hz2
    exact ⟨cs, fun w => by simp [zeroValue, typeInfo, hi, hz1], by simpa using h0, h1, h2, h3, h4, h5, h6, h7, h8⟩
  · simp at hz2

theorem alloc_new (w : World) (o : Obj) : (w.alloc o).heap[w.heap.size]? = some o := by
  show (w.heap.push o)[w.heap.size]? = _
  simp

theorem cells_open {cs : Array Value} (hZ : Zero cs) (N : Nat) (wt : Int) : Cells N wt false false 0 ((cs.setIfInBounds 121 (.chan (some N))).setIfInBounds 120 (.int .i32 wt)) := by
  have hsz := hZ.size
  exact ⟨by rw [Array.getElem?_setIfInBounds_ne (by omega), Array.getElem?_setIfInBounds_ne (by omega)]; exact hZ.tail, by rw [Array.getElem?_setIfInBounds_ne (by omega), Array.getElem?_setIfInBounds_ne (by omega)]; exact hZ.head, by rw [Array.getElem?_setIfInBounds_ne (by omega), Array.getElem?_setIfInBounds_ne (by omega)]; exact hZ.hseg, by rw [Array.getElem?_setIfInBounds_ne (by omega), Array.getElem?_setIfInBounds_ne (by omega)]; exact hZ.closed, by rw [Array.getElem?_setIfInBounds_self_of_lt (by simp; omega)], by rw [Array.getElem?_setIfInBounds_ne (by omega), Array.getElem?_setIfInBounds_self_of_lt (by omega)], by rw [Array.getElem?_setIfInBounds_ne (by omega), Array.getElem?_setIfInBounds_ne (by omega)]; exact hZ.mu, by rw [Array.getElem?_setIfInBounds_ne (by omega), Array.getElem?_setIfInBounds_ne (by omega)]; exact hZ.sema, by rw [Array.getElem?_setIfInBounds_ne (by omega), Array.getElem?_setIfInBounds_ne (by omega)]; exact hZ.pump⟩

theorem cells_shut {C : Array Value} {N : Nat} {wt : Int} {pm : Bool} {m : Int} (h : Cells N wt false pm m C) : Cells N wt true pm m (C.setIfInBounds 117 (.int .u32 1)) := by
  have hsz : 117 < C.size := (Array.getElem?_eq_some_iff.1 h.closed).1
  exact ⟨by rw [Array.getElem?_setIfInBounds_ne (by omega)]; exact h.tail, by rw [Array.getElem?_setIfInBounds_ne (by omega)]; exact h.head, by rw [Array.getElem?_setIfInBounds_ne (by omega)]; exact h.hseg,
    by rw [Array.getElem?_setIfInBounds_self_of_lt hsz]; rfl, by rw [Array.getElem?_setIfInBounds_ne (by omega)]; exact h.waiting, by rw [Array.getElem?_setIfInBounds_ne (by omega)]; exact h.wake,
    by rw [Array.getElem?_setIfInBounds_ne (by omega)]; exact h.mu, by rw [Array.getElem?_setIfInBounds_ne (by omega)]; exact h.sema, by rw [Array.getElem?_setIfInBounds_ne (by omega)]; exact h.pump⟩

theorem cells_pumped {C : Array Value} {N : Nat} {wt : Int} {cl : Bool} {m : Int} (h : Cells N wt cl false m C) : Cells N wt cl true m (C.setIfInBounds 125 (.pointer (some ⟨N + 2, 0, none⟩))) := by
  have hsz : 125 < C.size := (Array.getElem?_eq_some_iff.1 h.pump).1
  exact ⟨by rw [Array.getElem?_setIfInBounds_ne (by omega)]; exact h.tail, by rw [Array.getElem?_setIfInBounds_ne (by omega)]; exact h.head, by rw [Array.getElem?_setIfInBounds_ne (by omega)]; exact h.hseg,
    by rw [Array.getElem?_setIfInBounds_ne (by omega)]; exact h.closed, by rw [Array.getElem?_setIfInBounds_ne (by omega)]; exact h.waiting, by rw [Array.getElem?_setIfInBounds_ne (by omega)]; exact h.wake,
    by rw [Array.getElem?_setIfInBounds_ne (by omega)]; exact h.mu, by rw [Array.getElem?_setIfInBounds_ne (by omega)]; exact h.sema, by rw [Array.getElem?_setIfInBounds_self_of_lt hsz]; rfl⟩

/-- The Chan is made. -/
theorem ch_made {w : World} {wt : Int} {cl : Bool} {C : Array Value} (h : Cells w.heap.size wt cl false 0 C) : Ch w wt cl false false 0 ((w.alloc (.chan 1 #[] false 0 0 false)).alloc (.cells C 52)) where
  me := ⟨C, by have := alloc_new (w.alloc (.chan 1 #[] false 0 0 false)) (.cells C 52); simpa using this, h⟩
  state hp := by cases hp
  chan := ⟨0, 0, by rw [Below.heap_alloc _ _ _ (by simp)]; exact alloc_new w _⟩
  bel := ((Below.refl _ _).alloc (Nat.le_refl _) _).alloc (by simp) _

/-- The pump's state is made and stored. -/
theorem ch_pumped {w : World} {wt : Int} {cl tok : Bool} {m : Int} {wr : World} (h : Ch w wt cl false tok m wr) (hs : wr.heap.size = w.heap.size + 2) (p : Array Value) (hp : p.size = 4) :
    Ch w wt cl true tok m ((wr.alloc (.cells p 57)).setCell ⟨w.heap.size + 1, 125, none⟩ (.pointer (some ⟨w.heap.size + 2, 0, none⟩))) where
  me := by
    obtain ⟨C, h1, h2⟩ := (h.alloc (.cells p 57)).me
    exact ⟨_, block_setCell h1 125 _, cells_pumped h2⟩
  state _ := ⟨p, hp, by rw [Below.heap_setCell _ _ _ _ (by simp), ← hs]; exact alloc_new wr _⟩
  chan := by obtain ⟨s, r, h1⟩ := (h.alloc (.cells p 57)).chan; exact ⟨s, r, by rw [Below.heap_setCell _ _ _ _ (by simp)]; exact h1⟩
  bel := (h.bel.alloc h.bel.size _).setCell (by simp) _

set_option maxRecDepth 100000 in
theorem build_calls (wt : Int) (cl pm pre : Bool) (w : World) :
    Calls Yba.prog 5 #[.int .i32 wt, .bool cl, .bool pm, .bool pre] w fun e w' => e = .returned (.pointer (some ⟨w.heap.size + 1, 0, none⟩)) ∧ Ch w wt cl pm pre 0 w' := by
  have hmc := mk_chan
  obtain ⟨cs, hZ⟩ := zero52
  have hrun := hZ.run
  have hsz := hZ.size
  have hs1 : ¬ cs.size < 122 := by omega
  have c120 := hZ.waiting
  have c117 := hZ.closed
  cases cl
  · go_enter Yba.func5, Yba.ntmps5
    go_upto_region 5 with fail
    have hC := ch_made (w := w) (cells_open hZ w.heap.size wt)
    have hW : ((w.alloc (.chan 1 #[] false 0 0 false)).alloc (.cells ((cs.setIfInBounds 121 (.chan (some w.heap.size))).setIfInBounds 120 (.int .i32 wt)) 52)).heap.size = w.heap.size + 2 := by simp
    generalize (w.alloc (.chan 1 #[] false 0 0 false)).alloc (.cells ((cs.setIfInBounds 121 (.chan (some w.heap.size))).setIfInBounds 120 (.int .i32 wt)) 52) = W at *
    clear hmc hrun hsz hs1 c120 c117 hZ
    cases pm
    · cases pre
      · go_wp2
        go_ret
        exact ⟨rfl, hC⟩
      · obtain ⟨s, r, hc⟩ := hC.chan
        have cw := hC.cwake
        have R := fun s => hC.token s r
        go_upto_region 8 with fail
        refine wp_region_comm_at 5 rfl ?_
        simp only [List.take_succ_cons, List.take_zero]
        go_wp2
        refine then_comm_at 5 rfl (took_send_room (c := w.heap.size) (v := .agg #[]) (z' := .tuple #[]) (cap := 1) (buf := #[]) rfl (by simp [go_sem, execOp, Go.Conc.scase, Act.eval]) hc (by simp)) ?_
        simp only [List.drop_succ_cons, List.drop_zero]
        go_wp2
        go_ret
        exact ⟨rfl, R _⟩
    · have c125 := hC.cpump
      have z125 := hC.zmu 125
      have hlt : w.heap.size + 1 < W.heap.size := by omega
      go_wp2_with fail
      refine (pump_store (w.heap.size + 1) 125 (w.heap.size + 2) (.pointer none) (.int .u32 0) _ ?_ ?_ ?_).mono ?_
      · rw [World.cell?_alloc_past _ _ _ hlt]; exact c125
      · rw [World.frozen?_alloc_past _ _ _ hlt]; exact z125
      · rw [World.cell?_alloc_at _ _ _ _ (by omega)]; rfl
      rintro e w2 ⟨rfl, hw2⟩
      have hC2 : Ch w wt false true false 0 w2 := by rw [hw2]; exact ch_pumped hC hW _ rfl
      clear hw2 hC c125 z125 hlt hW
      cases pre
      · go_wp2
        go_ret
        exact ⟨rfl, hC2⟩
      · obtain ⟨s, r, hc⟩ := hC2.chan
        have cw := hC2.cwake
        have R := fun s => hC2.token s r
        go_upto_region 8 with fail
        refine wp_region_comm_at 5 rfl ?_
        simp only [List.take_succ_cons, List.take_zero]
        go_wp2
        refine then_comm_at 5 rfl (took_send_room (c := w.heap.size) (v := .agg #[]) (z' := .tuple #[]) (cap := 1) (buf := #[]) rfl (by simp [go_sem, execOp, Go.Conc.scase, Act.eval]) hc (by simp)) ?_
        simp only [List.drop_succ_cons, List.drop_zero]
        go_wp2
        go_ret
        exact ⟨rfl, R _⟩
  · go_enter Yba.func5, Yba.ntmps5
    go_upto_region 5 with fail
    have hC := ch_made (w := w) (cells_shut (cells_open hZ w.heap.size wt))
    have hW : ((w.alloc (.chan 1 #[] false 0 0 false)).alloc (.cells (((cs.setIfInBounds 121 (.chan (some w.heap.size))).setIfInBounds 120 (.int .i32 wt)).setIfInBounds 117 (.int .u32 1)) 52)).heap.size = w.heap.size + 2 := by simp
    generalize (w.alloc (.chan 1 #[] false 0 0 false)).alloc (.cells (((cs.setIfInBounds 121 (.chan (some w.heap.size))).setIfInBounds 120 (.int .i32 wt)).setIfInBounds 117 (.int .u32 1)) 52) = W at *
    clear hmc hrun hsz hs1 c120 c117 hZ
    cases pm
    · cases pre
      · go_wp2
        go_ret
        exact ⟨rfl, hC⟩
      · obtain ⟨s, r, hc⟩ := hC.chan
        have cw := hC.cwake
        have R := fun s => hC.token s r
        go_upto_region 8 with fail
        refine wp_region_comm_at 5 rfl ?_
        simp only [List.take_succ_cons, List.take_zero]
        go_wp2
        refine then_comm_at 5 rfl (took_send_room (c := w.heap.size) (v := .agg #[]) (z' := .tuple #[]) (cap := 1) (buf := #[]) rfl (by simp [go_sem, execOp, Go.Conc.scase, Act.eval]) hc (by simp)) ?_
        simp only [List.drop_succ_cons, List.drop_zero]
        go_wp2
        go_ret
        exact ⟨rfl, R _⟩
    · have c125 := hC.cpump
      have z125 := hC.zmu 125
      have hlt : w.heap.size + 1 < W.heap.size := by omega
      go_wp2_with fail
      refine (pump_store (w.heap.size + 1) 125 (w.heap.size + 2) (.pointer none) (.int .u32 0) _ ?_ ?_ ?_).mono ?_
      · rw [World.cell?_alloc_past _ _ _ hlt]; exact c125
      · rw [World.frozen?_alloc_past _ _ _ hlt]; exact z125
      · rw [World.cell?_alloc_at _ _ _ _ (by omega)]; rfl
      rintro e w2 ⟨rfl, hw2⟩
      have hC2 : Ch w wt true true false 0 w2 := by rw [hw2]; exact ch_pumped hC hW _ rfl
      clear hw2 hC c125 z125 hlt hW
      cases pre
      · go_wp2
        go_ret
        exact ⟨rfl, hC2⟩
      · obtain ⟨s, r, hc⟩ := hC2.chan
        have cw := hC2.cwake
        have R := fun s => hC2.token s r
        go_upto_region 8 with fail
        refine wp_region_comm_at 5 rfl ?_
        simp only [List.take_succ_cons, List.take_zero]
        go_wp2
        refine then_comm_at 5 rfl (took_send_room (c := w.heap.size) (v := .agg #[]) (z' := .tuple #[]) (cap := 1) (buf := #[]) rfl (by simp [go_sem, execOp, Go.Conc.scase, Act.eval]) hc (by simp)) ?_
        simp only [List.drop_succ_cons, List.drop_zero]
        go_wp2
        go_ret
        exact ⟨rfl, R _⟩

/-- The plain statement. -/
theorem want_calls (wt : Int) (cl pm pre : Bool) (w : World) :
    Calls Yba.prog 7 #[.int .i32 wt, .bool cl, .bool pm, .bool pre] w fun e w' => e = .returned (.bool (pre || (decide (0 < wt) && (cl || pm)))) ∧ w' = w := by
  cases pre
  · by_cases hw : 0 < wt
    · have hd : decide (0 < wt) = true := by simp [hw]
      cases cl <;> cases pm
      all_goals
        go_enter Yba.func7, Yba.ntmps7
        go_wp2
        go_ret
        exact ⟨by simp <;> omega, rfl⟩
    · have hd : decide (0 < wt) = false := by simp; omega
      go_enter Yba.func7, Yba.ntmps7
      go_wp2
      go_ret
      exact ⟨by simp, rfl⟩
  · go_enter Yba.func7, Yba.ntmps7
    go_wp2
    go_ret
    exact ⟨by simp, rfl⟩
end Go.Proofs.Ybulkazlm.Wake
