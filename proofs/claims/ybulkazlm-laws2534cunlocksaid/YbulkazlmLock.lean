import Derived.Test.YbulkazlmBuild
namespace Go.Proofs.Ybulkazlm.Wake
open Go.ChangeShapes Go.WideShapes Go.RowKit
set_option linter.unusedVariables false

/-! ### sync.Mutex, one goroutine, the lock free or held by it alone -/
theorem disable (w : World) : (callFunc 24 #[]).run Yba.prog w = .ok (.value (.tuple #[])) w := run_call_mark0 Yba.func24 (by kernel_rfl) (by kernel_rfl) (by kernel_rfl) .disable (by kernel_rfl) w
theorem enable (w : World) : (callFunc 26 #[]).run Yba.prog w = .ok (.value (.tuple #[])) w := run_call_mark0 Yba.func26 (by kernel_rfl) (by kernel_rfl) (by kernel_rfl) .enable (by kernel_rfl) w
theorem acquire (a : Addr) (w : World) : (callFunc 27 #[.pointer (some a)]).run Yba.prog w = .ok (.value (.tuple #[])) w := run_call_marked Yba.func27 (by kernel_rfl) (by kernel_rfl) (by kernel_rfl) .acquire (by kernel_rfl) a w
theorem releaseMerge (a : Addr) (w : World) : (callFunc 29 #[.pointer (some a)]).run Yba.prog w = .ok (.value (.tuple #[])) w := run_call_marked Yba.func29 (by kernel_rfl) (by kernel_rfl) (by kernel_rfl) .releaseMerge (by kernel_rfl) a w

theorem info35 : ∃ j, Yba.prog.info? 35 = some j ∧ j.size ≠ 0 := by
  obtain ⟨j, h1, h2⟩ := Option.map_eq_some_iff.1 (show (Yba.prog.info? 35).map (fun i => decide (i.size = 0)) = some false from by kernel_rfl)
  exact ⟨j, h1, by simpa using h2⟩
/-- The lock's address handed to the race detector's marks. ('change ..': the conversion's own text is laid open without its name.) -/
theorem conv_mu {b o : Nat} {v : Value} {w : World} (hc : w.cell? ⟨b, o, none⟩ = some v) : (convert 69 29 (.pointer (some ⟨b, o, none⟩))).run Yba.prog w = .ok (.pointer (some ⟨b, o, none⟩)) w := by
  obtain ⟨e, n, hsh, hlt, hsp⟩ := World.shape?_of_cell? hc
  obtain ⟨j, hj, hz⟩ := info35
  have hge : o < n := hlt
  simp [convert, run_underlying Yba.underlying29, run_underlying Yba.underlying69]
  change Sem.run Yba.prog (underlying 69 >>= _) w = _
  simp [run_underlying Yba.underlying29, run_underlying Yba.underlying69, Conv.seenAt, viewAt, cellsIn, sizeOf, typeInfo, hj, hz, hsh, Result.andThen]
  intro h
  omega

set_option maxRecDepth 100000 in
theorem lock_calls (b o : Nat) (w : World) (hc : w.cell? ⟨b, o, none⟩ = some (.int .i32 0)) (hz : w.frozen? ⟨b, o, none⟩ = false) :
    Calls Yba.prog 9 #[.pointer (some ⟨b, o, none⟩)] w fun e w' => e = .returned (.tuple #[]) ∧ w' = w.setCell ⟨b, o, none⟩ (.int .i32 1) := by
  have hcas := run_call_cas_hit (P := Yba.prog) Yba.func25 (by kernel_rfl) (by kernel_rfl) (by kernel_rfl) .i32 (by kernel_rfl) (y := 1) hc hz
  have hd := disable
  have he := enable
  have ha := acquire
  have hcv := conv_mu (World.cell?_setCell_same w ⟨b, o, none⟩ (.int .i32 1) hc)
  have hin : Hid (Calls Yba.prog 18 #[.pointer (some ⟨b, o, none⟩)] w fun e w' => e = .returned (.tuple #[]) ∧ w' = w.setCell ⟨b, o, none⟩ (.int .i32 1)) := by
    go_enter Yba.func18, Yba.ntmps18
    go_wp2_with fail
    first | go_end0 | refine bodyPost_ret (results_none rfl _ _ _) rfl ?_
    exact ⟨rfl, rfl⟩
  clear hcas hd he ha hcv
  go_enter Yba.func9, Yba.ntmps9
  go_wp2_with (go_at_call 18; refine hin.out.mono ?_; rintro e w' ⟨rfl, rfl⟩)
  go_end0
  exact ⟨rfl, rfl⟩

set_option maxRecDepth 100000 in
theorem unlock_calls (b o : Nat) (w : World) (hc : w.cell? ⟨b, o, none⟩ = some (.int .i32 1)) (hz : w.frozen? ⟨b, o, none⟩ = false) :
    Calls Yba.prog 12 #[.pointer (some ⟨b, o, none⟩)] w fun e w' => e = .returned (.tuple #[]) ∧ w' = w.setCell ⟨b, o, none⟩ (.int .i32 0) := by
  have hadd := run_call_add (P := Yba.prog) Yba.func30 (by kernel_rfl) (by kernel_rfl) (by kernel_rfl) .i32 (by kernel_rfl) (y := -1) (s := 0) hc hz (by simp [go_sem]; rfl)
  have hd := disable
  have he := enable
  have hr := releaseMerge
  have hcv := conv_mu hc
  have hin : Hid (Calls Yba.prog 20 #[.pointer (some ⟨b, o, none⟩)] w fun e w' => e = .returned (.tuple #[]) ∧ w' = w.setCell ⟨b, o, none⟩ (.int .i32 0)) := by
    go_enter Yba.func20, Yba.ntmps20
    go_wp2_with fail
    first | go_end0 | refine bodyPost_ret (results_none rfl _ _ _) rfl ?_
    exact ⟨rfl, rfl⟩
  clear hadd hd he hr hcv
  go_enter Yba.func12, Yba.ntmps12
  go_wp2_with (go_at_call 20; refine hin.out.mono ?_; rintro e w' ⟨rfl, rfl⟩)
  go_end0
  exact ⟨rfl, rfl⟩

theorem bits_free : bits BinOp.and IntKind.i32 0 5 = 0 := by decide
theorem bits_held : bits BinOp.or IntKind.i32 0 1 = 1 := by decide

set_option maxRecDepth 100000 in
theorem tryLock_calls (b o : Nat) (w : World) (hc : w.cell? ⟨b, o, none⟩ = some (.int .i32 0)) (hz : w.frozen? ⟨b, o, none⟩ = false) :
    Calls Yba.prog 11 #[.pointer (some ⟨b, o, none⟩)] w fun e w' => e = .returned (.bool true) ∧ w' = w.setCell ⟨b, o, none⟩ (.int .i32 1) := by
  have hcas := run_call_cas_hit (P := Yba.prog) Yba.func25 (by kernel_rfl) (by kernel_rfl) (by kernel_rfl) .i32 (by kernel_rfl) (y := 1) hc hz
  have hd := disable
  have he := enable
  have ha := acquire
  have b1 := bits_free
  have b2 := bits_held
  have hcv := conv_mu (World.cell?_setCell_same w ⟨b, o, none⟩ (.int .i32 1) hc)
  have hin : Hid (Calls Yba.prog 19 #[.pointer (some ⟨b, o, none⟩)] w fun e w' => e = .returned (.bool true) ∧ w' = w.setCell ⟨b, o, none⟩ (.int .i32 1)) := by
    go_enter Yba.func19, Yba.ntmps19
    go_wp2_with fail
    go_ret
    exact ⟨rfl, rfl⟩
  clear hcas hd he ha hcv
  go_enter Yba.func11, Yba.ntmps11
  go_wp2_with (go_at_call 19; refine hin.out.mono ?_; rintro e w' ⟨rfl, rfl⟩)
  go_ret
  exact ⟨rfl, rfl⟩
end Go.Proofs.Ybulkazlm.Wake
