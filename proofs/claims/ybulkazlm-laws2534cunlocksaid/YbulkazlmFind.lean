import Derived.Test.YbulkazlmRows
import Derived.Test.YbulkazlmComm
import Derived.WalkKit
import Derived.WalkLawsBesides
import Derived.WalkSpells
import Derived.WalkSmall
import Derived.Laws.LoneSync
import Derived.Conc.LoneSelectN
import Derived.Deep.Cut
namespace Go.Proofs.Ybulkazlm.Wake
open Go.ChangeShapes Go.WideShapes Go.RowKit
open Go.Proofs.Ybulkazlm.Comm
set_option linter.unusedVariables false

/-! ### The library's body-less functions -/
section
variable {P : Program} {f : FuncId} {fn : Func}
theorem run_call_loadPtr (hf : P.funcs[f]? = some fn) (hname : (fn.name == "runtime.NumGoroutine") = false) (hb : fn.body.isNone = true) (hn : Extern.findNext fn = none)
    (he : Extern.find fn = some (Extern.Atomic.loadT .ptr)) {a : Addr} {x : Option Addr} {w : World} (hc : w.cell? a = some (.pointer x)) :
    (callFunc f #[.pointer (some a)]).run P w = .ok (.value (.pointer x)) w := by
  rw [run_callFunc_extern hf hname hb hn he]
  change (Sem.run P (do Extern.Atomic.read .ptr (← asAddr (.pointer (some a)))) w).andThen _ = _
  simp [Extern.Atomic.read, asAddr, hc, Result.andThen]

theorem run_call_storePtr (hf : P.funcs[f]? = some fn) (hname : (fn.name == "runtime.NumGoroutine") = false) (hb : fn.body.isNone = true) (hn : Extern.findNext fn = none)
    (he : Extern.find fn = some Extern.Atomic.storeT) {a : Addr} {y : Option Addr} {u : Value} {w : World} (hc : w.cell? a = some u) (hz : w.frozen? a = false) :
    (callFunc f #[.pointer (some a), .pointer y]).run P w = .ok (.value (.tuple #[])) (w.setCell a (.pointer y)) := by
  rw [run_callFunc_extern hf hname hb hn he]
  change (Sem.run P (do
    store (← asAddr (.pointer (some a))) (.pointer y) .atomic
    pure Extern.Atomic.none_) w).andThen _ = _
  simp [asAddr, hc, hz, run_store P w a (.pointer y) .atomic rfl, Result.andThen, Extern.Atomic.none_]
end

theorem load_ptr {a : Addr} {x : Option Addr} {w : World} (hc : w.cell? a = some (.pointer x)) : (callFunc 17 #[.pointer (some a)]).run Yba.prog w = .ok (.value (.pointer x)) w :=
  run_call_loadPtr Yba.func17 (by kernel_rfl) (by kernel_rfl) (by kernel_rfl) (by kernel_rfl) hc
theorem store_ptr {a : Addr} {y : Option Addr} {u : Value} {w : World} (hc : w.cell? a = some u) (hz : w.frozen? a = false) :
    (callFunc 21 #[.pointer (some a), .pointer y]).run Yba.prog w = .ok (.value (.tuple #[])) (w.setCell a (.pointer y)) :=
  run_call_storePtr Yba.func21 (by kernel_rfl) (by kernel_rfl) (by kernel_rfl) (by kernel_rfl) hc hz
theorem load_i32 {a : Addr} {x : Int} {w : World} (hc : w.cell? a = some (.int .i32 x)) : (callFunc 14 #[.pointer (some a)]).run Yba.prog w = .ok (.value (.int .i32 x)) w :=
  run_call_load Yba.func14 (by kernel_rfl) (by kernel_rfl) (by kernel_rfl) .i32 (by kernel_rfl) hc
theorem load_i64 {a : Addr} {x : Int} {w : World} (hc : w.cell? a = some (.int .i64 x)) : (callFunc 43 #[.pointer (some a)]).run Yba.prog w = .ok (.value (.int .i64 x)) w :=
  run_call_load Yba.func43 (by kernel_rfl) (by kernel_rfl) (by kernel_rfl) .i64 (by kernel_rfl) hc
theorem load_u32 {a : Addr} {x : Int} {w : World} (hc : w.cell? a = some (.int .u32 x)) : (callFunc 49 #[.pointer (some a)]).run Yba.prog w = .ok (.value (.int .u32 x)) w :=
  run_call_load Yba.func49 (by kernel_rfl) (by kernel_rfl) (by kernel_rfl) .u32 (by kernel_rfl) hc

/-! ### The untyped pointer's conversions -/
theorem conv_nil42 (w : World) : (convert 29 42 (.pointer none)).run Yba.prog w = .ok (.pointer none) w := by kernel_rfl
theorem conv_nil25 (w : World) : (convert 29 25 (.pointer none)).run Yba.prog w = .ok (.pointer none) w := by kernel_rfl
theorem info57 : ∃ j, Yba.prog.info? 57 = some j ∧ j.size ≠ 0 := by
  obtain ⟨j, h1, h2⟩ := Option.map_eq_some_iff.1 (show (Yba.prog.info? 57).map (fun i => decide (i.size = 0)) = some false from by kernel_rfl)
  exact ⟨j, h1, by simpa using h2⟩
theorem lies57 : liesAt Yba.prog Yba.prog.depth 57 (4 / Yba.prog.cellsOf 57) 0 57 1 = true := by kernel_rfl

/-- ('change ..': the conversion's own text is laid open without its name.) -/
theorem conv_some {s : Nat} {w : World} (hsh : w.shape? s = some (57, 4)) : (convert 29 42 (.pointer (some ⟨s, 0, none⟩))).run Yba.prog w = .ok (.pointer (some ⟨s, 0, none⟩)) w := by
  obtain ⟨j, hj, _⟩ := info57
  have hlies := lies57
  simp [convert, run_underlying Yba.underlying29, run_underlying Yba.underlying42]
  change Sem.run Yba.prog (underlying 29 >>= _) w = _
  simp [run_underlying Yba.underlying29, run_underlying Yba.underlying42, Conv.seenAt, viewAt, hsh, variablesAt, hlies, sizeOf, typeInfo, hj]
theorem conv_to {s : Nat} {v : Value} {w : World} (hc : w.cell? ⟨s, 0, none⟩ = some v) : (convert 42 29 (.pointer (some ⟨s, 0, none⟩))).run Yba.prog w = .ok (.pointer (some ⟨s, 0, none⟩)) w := by
  obtain ⟨e, n, hsh, hlt, hsp⟩ := World.shape?_of_cell? hc
  obtain ⟨j, hj, hz⟩ := info57
  have hge : 0 < n := hlt
  simp [convert, run_underlying Yba.underlying29, run_underlying Yba.underlying42]
  change Sem.run Yba.prog (underlying 42 >>= _) w = _
  simp [run_underlying Yba.underlying29, run_underlying Yba.underlying42, Conv.seenAt, viewAt, cellsIn, sizeOf, typeInfo, hj, hz, hsh, Result.andThen]
  intro h
  omega

/-- pump.Load() -/
theorem pump_load (b o : Nat) (x : Option Nat) (w : World) (hc : w.cell? ⟨b, o, none⟩ = some (.pointer (x.map fun s => ⟨s, 0, none⟩))) (hsh : ∀ s, x = some s → w.shape? s = some (57, 4)) :
    Calls Yba.prog 8 #[.pointer (some ⟨b, o, none⟩)] w fun e w' => e = .returned (.pointer (x.map fun s => ⟨s, 0, none⟩)) ∧ w' = w := by
  have h1 := load_ptr hc
  cases x with
  | none =>
    have h2 := conv_nil42 w
    simp only [Option.map_none] at h1 hc
    go_enter Yba.func8, Yba.ntmps8
    go_wp2
    go_ret
    exact ⟨rfl, rfl⟩
  | some s =>
    have h2 := conv_some (hsh s rfl)
    simp only [Option.map_some] at h1 hc
    go_enter Yba.func8, Yba.ntmps8
    go_wp2
    go_ret
    exact ⟨rfl, rfl⟩

/-- pump.Store(..) -/
theorem pump_store (b o s : Nat) (u v : Value) (w : World) (hc : w.cell? ⟨b, o, none⟩ = some u) (hz : w.frozen? ⟨b, o, none⟩ = false) (hs : w.cell? ⟨s, 0, none⟩ = some v) :
    Calls Yba.prog 13 #[.pointer (some ⟨b, o, none⟩), .pointer (some ⟨s, 0, none⟩)] w fun e w' => e = .returned (.tuple #[]) ∧ w' = w.setCell ⟨b, o, none⟩ (.pointer (some ⟨s, 0, none⟩)) := by
  have h1 := store_ptr (y := some ⟨s, 0, none⟩) hc hz
  have h2 := conv_to hs
  clear hc hz
  go_enter Yba.func13, Yba.ntmps13
  go_wp2
  go_end0
  exact ⟨rfl, rfl⟩

/-- hseg.Load(), where no segment is there. -/
theorem hseg_load (b o : Nat) (w : World) (hc : w.cell? ⟨b, o, none⟩ = some (.pointer none)) :
    Calls Yba.prog 45 #[.pointer (some ⟨b, o, none⟩)] w fun e w' => e = .returned (.pointer none) ∧ w' = w := by
  have h1 := load_ptr hc
  have h2 := conv_nil25 w
  go_enter Yba.func45, Yba.ntmps45
  go_wp2
  go_ret
  exact ⟨rfl, rfl⟩

theorem interleave_calls (w : World) : Calls Yba.prog 44 #[] w fun e w' => e = .returned (.tuple #[]) ∧ w' = w := by
  go_enter Yba.func44, Yba.ntmps44
  go_wp2
  go_end0
  exact ⟨rfl, rfl⟩

/-- The empty queue (in block b, at its head): no segment; head and tail at 0. -/
structure Empty (b : Nat) (w : World) : Prop where
  tail : w.cell? ⟨b, 0, none⟩ = some (.int .i64 0)
  head : w.cell? ⟨b, 57, none⟩ = some (.int .i64 0)
  hseg : w.cell? ⟨b, 116, none⟩ = some (.pointer none)

theorem oldest_calls (b : Nat) (w : World) (h : Empty b w) :
    Calls Yba.prog 32 #[.pointer (some ⟨b, 0, none⟩)] w fun e w' => e = .returned (.tuple #[.pointer none, .int .i64 0]) ∧ w' = w := by
  have h1 := load_i64 h.head
  have h2 := h.hseg
  go_enter Yba.func32, Yba.ntmps32
  go_wp2_with fail
  refine wp_loop_once ?_
  go_wp2_with (first | (go_at_call 44; refine (interleave_calls _).mono ?_; rintro e w' ⟨rfl, rfl⟩) | (go_at_call 45; refine (hseg_load b 116 _ h2).mono ?_; rintro e w' ⟨rfl, rfl⟩))
  go_ret2
  exact ⟨rfl, rfl⟩

/-- canTake: the empty queue has no oldest value. -/
theorem canTake_calls (b : Nat) (w : World) (h : Empty b w) :
    Calls Yba.prog 22 #[.pointer (some ⟨b, 0, none⟩)] w fun e w' => e = .returned (.bool false) ∧ w' = w := by
  go_enter Yba.func22, Yba.ntmps22
  go_wp2_with (go_at_call 32; refine (oldest_calls b _ h).mono ?_; rintro e w' ⟨rfl, rfl⟩)
  go_ret
  exact ⟨rfl, rfl⟩

theorem closed_calls (b : Nat) (cl : Bool) (w : World) (hc : w.cell? ⟨b, 117, none⟩ = some (.int .u32 (if cl then 1 else 0))) :
    Calls Yba.prog 34 #[.pointer (some ⟨b, 0, none⟩)] w fun e w' => e = .returned (.bool cl) ∧ w' = w := by
  have h1 := load_u32 hc
  clear hc
  cases cl
  · simp only [Bool.false_eq_true, if_false] at h1
    go_enter Yba.func34, Yba.ntmps34
    go_wp2
    go_ret
    exact ⟨rfl, rfl⟩
  · simp only [if_true] at h1
    go_enter Yba.func34, Yba.ntmps34
    go_wp2
    go_ret
    exact ⟨rfl, rfl⟩

theorem bits_andNot : bits BinOp.andNot IntKind.i64 0 4611686018427387904 = 0 := by decide
theorem bits_and : bits BinOp.and IntKind.i64 0 4611686018427387904 = 0 := by decide

theorem len_calls (b : Nat) (w : World) (h : Empty b w) :
    Calls Yba.prog 35 #[.pointer (some ⟨b, 0, none⟩)] w fun e w' => e = .returned (.int .i64 0) ∧ w' = w := by
  have h1 := load_i64 h.head
  have h2 := load_i64 h.tail
  have b1 := bits_andNot
  have b2 := bits_and
  clear h
  go_enter Yba.func35, Yba.ntmps35
  go_wp2_with (go_at_call 44; refine (interleave_calls _).mono ?_; rintro e w' ⟨rfl, rfl⟩)
  go_ret
  exact ⟨rfl, rfl⟩

theorem drained_calls (b : Nat) (cl : Bool) (w : World) (h : Empty b w) (hc : w.cell? ⟨b, 117, none⟩ = some (.int .u32 (if cl then 1 else 0))) :
    Calls Yba.prog 23 #[.pointer (some ⟨b, 0, none⟩)] w fun e w' => e = .returned (.bool cl) ∧ w' = w := by
  have HC := closed_calls b cl w hc
  have HD : Hid (Calls Yba.prog 34 #[.pointer (some ⟨b, 0, none⟩)] w fun e w' => e = .returned (.bool cl) ∧ w' = w) := HC
  clear HC hc
  cases cl
  · go_enter Yba.func23, Yba.ntmps23
    go_wp2_with (first | (go_at_call 34; refine HD.out.mono ?_; rintro e w' ⟨rfl, rfl⟩) | (go_at_call 35; refine (len_calls b _ h).mono ?_; rintro e w' ⟨rfl, rfl⟩))
    go_ret
    exact ⟨rfl, rfl⟩
  · go_enter Yba.func23, Yba.ntmps23
    go_wp2_with (first | (go_at_call 34; refine HD.out.mono ?_; rintro e w' ⟨rfl, rfl⟩) | (go_at_call 35; refine (len_calls b _ h).mono ?_; rintro e w' ⟨rfl, rfl⟩))
    go_ret
    exact ⟨rfl, rfl⟩

/-- somethingToFind, at the empty queue: closed, or the pump is set. -/
theorem find_calls (b : Nat) (cl : Bool) (x : Option Nat) (w : World) (h : Empty b w) (hc : w.cell? ⟨b, 117, none⟩ = some (.int .u32 (if cl then 1 else 0)))
    (hp : w.cell? ⟨b, 125, none⟩ = some (.pointer (x.map fun s => ⟨s, 0, none⟩))) (hsh : ∀ s, x = some s → w.shape? s = some (57, 4)) :
    Calls Yba.prog 15 #[.pointer (some ⟨b, 0, none⟩)] w fun e w' => e = .returned (.bool (cl || x.isSome)) ∧ w' = w := by
  have HD : Hid (Calls Yba.prog 23 #[.pointer (some ⟨b, 0, none⟩)] w fun e w' => e = .returned (.bool cl) ∧ w' = w) := drained_calls b cl w h hc
  have HP : Hid (Calls Yba.prog 8 #[.pointer (some ⟨b, 125, none⟩)] w fun e w' => e = .returned (.pointer (x.map fun s => ⟨s, 0, none⟩)) ∧ w' = w) := pump_load b 125 x w hp hsh
  clear hc hp hsh
  cases cl
  · cases x with
    | none =>
      simp only [Option.map_none] at HP
      go_enter Yba.func15, Yba.ntmps15
      go_wp2_with (first | (go_at_call 22; refine (canTake_calls b _ h).mono ?_; rintro e w' ⟨rfl, rfl⟩) | (go_at_call 23; refine HD.out.mono ?_; rintro e w' ⟨rfl, rfl⟩) | (go_at_call 8; refine HP.out.mono ?_; rintro e w' ⟨rfl, rfl⟩))
      go_ret
      exact ⟨rfl, rfl⟩
    | some s =>
      simp only [Option.map_some] at HP
      go_enter Yba.func15, Yba.ntmps15
      go_wp2_with (first | (go_at_call 22; refine (canTake_calls b _ h).mono ?_; rintro e w' ⟨rfl, rfl⟩) | (go_at_call 23; refine HD.out.mono ?_; rintro e w' ⟨rfl, rfl⟩) | (go_at_call 8; refine HP.out.mono ?_; rintro e w' ⟨rfl, rfl⟩))
      go_ret
      exact ⟨rfl, rfl⟩
  · go_enter Yba.func15, Yba.ntmps15
    go_wp2_with (first | (go_at_call 22; refine (canTake_calls b _ h).mono ?_; rintro e w' ⟨rfl, rfl⟩) | (go_at_call 23; refine HD.out.mono ?_; rintro e w' ⟨rfl, rfl⟩) | (go_at_call 8; refine HP.out.mono ?_; rintro e w' ⟨rfl, rfl⟩))
    go_ret
    exact ⟨rfl, rfl⟩

end Go.Proofs.Ybulkazlm.Wake
