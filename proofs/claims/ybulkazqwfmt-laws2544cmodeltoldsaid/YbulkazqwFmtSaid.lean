/-
  DERIVED. fmt ON THIS ROAD: the closed facts for the two stops (fmt.Sprintf: a plain stop; fmt.errorf: a stop that calls its operands' methods), then (Period).String and fmt.Errorf at longerThan's format by their contracts. WHATEVER fmt's TEXT IS: the contracts say only that a string (a new error of errors.New's make) comes back.
-/
import Derived.Test.YbulkazqwFmtChecked
import Derived.WalkKit
import Derived.WalkSpells
import Derived.Stop.CallBack
import Derived.Stop.IfaceNil
import GoSem.ClaimData
namespace Go.Proofs.YbulkazqwFmt
open Go.RowKit Go.Extern.Stop Go.Stop Go.Extern

theorem Ybaf.call15 (args : Array Value) (w : World) : (callFunc 15 args).run Ybaf.prog w = ((FmtStop.sprintf #[9, 54] #[9] args).run Ybaf.prog w).andThen fun v w' => .ok (.value v) w' :=
  run_callFunc_extern Ybaf.func15 (by kernel_rfl) (by kernel_rfl) (by kernel_rfl) (by kernel_rfl) args w
attribute [local go_sem] Ybaf.call15
theorem Ybaf.call12 (args : Array Value) (w : World) : (callFunc 12 args).run Ybaf.prog w = (FmtCalls.errorf #[9, 54] #[29] args).run Ybaf.prog w :=
  run_callFunc_next Ybaf.func12 (by kernel_rfl) (by kernel_rfl) (by kernel_rfl) args w
attribute [local go_sem] Ybaf.call12
theorem Ybaf.guard (name : String) (w : World) : (FmtStop.guard name).run Ybaf.prog w = .ok () w := by kernel_rfl
attribute [local go_sem] Ybaf.guard
theorem Ybaf.nextTurns : Extern.next FmtCalls.turnsRow = some (FmtCalls.begun #[] #[]) := by kernel_rfl
theorem Ybaf.nextReturned : Extern.next FmtCalls.returnedRow = some (FmtCalls.returned #[] #[]) := by kernel_rfl

-- the format of String, 2 operands
theorem Ybaf.fmt0 : FmtStop.printed? ⟨#[37, 100, 32, 37, 115]⟩ 2 = some [(0, 100, false), (1, 115, false)] := by kernel_rfl
attribute [local go_sem] Ybaf.fmt0
theorem Ybaf.fmt0r (w : World) : (FmtDoors.printed ⟨#[37, 100, 32, 37, 115]⟩ 2).run Ybaf.prog w = .ok [(0, 100, false), (1, 115, false)] w := by kernel_rfl
attribute [local go_sem] Ybaf.fmt0r
-- longerThan's format, 2 operands
abbrev fmtL : ByteArray := ⟨#[119, 104, 101, 116, 104, 101, 114, 32, 97, 32, 112, 101, 114, 105, 111, 100, 32, 111, 102, 32, 37, 118, 32, 105, 115, 32, 109, 111, 114, 101, 32, 116, 104, 97, 110, 32, 37, 100, 32, 100, 97, 121, 115, 32, 108, 111, 110, 103, 32, 100, 101, 112, 101, 110, 100, 115, 32, 111, 110, 32, 105, 116, 115, 32, 100, 97, 116, 101, 115]⟩
theorem Ybaf.fmt1 : FmtStop.printed? ⟨#[119, 104, 101, 116, 104, 101, 114, 32, 97, 32, 112, 101, 114, 105, 111, 100, 32, 111, 102, 32, 37, 118, 32, 105, 115, 32, 109, 111, 114, 101, 32, 116, 104, 97, 110, 32, 37, 100, 32, 100, 97, 121, 115, 32, 108, 111, 110, 103, 32, 100, 101, 112, 101, 110, 100, 115, 32, 111, 110, 32, 105, 116, 115, 32, 100, 97, 116, 101, 115]⟩ 2 = some [(0, 118, false), (1, 100, false)] := by kernel_rfl
attribute [local go_sem] Ybaf.fmt1
theorem Ybaf.fmt1r (w : World) : (FmtDoors.printed ⟨#[119, 104, 101, 116, 104, 101, 114, 32, 97, 32, 112, 101, 114, 105, 111, 100, 32, 111, 102, 32, 37, 118, 32, 105, 115, 32, 109, 111, 114, 101, 32, 116, 104, 97, 110, 32, 37, 100, 32, 100, 97, 121, 115, 32, 108, 111, 110, 103, 32, 100, 101, 112, 101, 110, 100, 115, 32, 111, 110, 32, 105, 116, 115, 32, 100, 97, 116, 101, 115]⟩ 2).run Ybaf.prog w = .ok [(0, 118, false), (1, 100, false)] w := by kernel_rfl
attribute [local go_sem] Ybaf.fmt1r

-- the operands: int64 (type 2), string (type 9), series.Period (type 27)
def Ybaf.shape2 : List UInt8 := [5, 5, 0, 0, 0, 0, 0, 0, 0, 105, 110, 116, 54, 52]
def Ybaf.shape9 : List UInt8 := [12, 6, 0, 0, 0, 0, 0, 0, 0, 115, 116, 114, 105, 110, 103]
theorem Ybaf.act2_100w (name : String) (x : Value) (w : World) : (FmtCalls.act name true 100 false (.iface 2 x)).run Ybaf.prog w = .ok (.closed true) w := by kernel_rfl
attribute [local go_sem] Ybaf.act2_100w
theorem Ybaf.op2_100 (name : String) (x : Int) (w : World) : (FmtStop.operand name false 100 false (.iface 2 (.int .i64 x))).run Ybaf.prog w = .ok (Ybaf.shape2, Go.Extern.Stop.digits 8 (x % 2 ^ 64).toNat) w := by kernel_rfl
attribute [local go_sem] Ybaf.op2_100
theorem Ybaf.op2_100w (name : String) (x : Int) (w : World) : (FmtStop.operand name true 100 false (.iface 2 (.int .i64 x))).run Ybaf.prog w = .ok (Ybaf.shape2, Go.Extern.Stop.digits 8 (x % 2 ^ 64).toNat) w := by kernel_rfl
attribute [local go_sem] Ybaf.op2_100w
theorem Ybaf.op9_115 (name : String) (x : ByteArray) (w : World) : (FmtStop.operand name false 115 false (.iface 9 (.string x))).run Ybaf.prog w = .ok (Ybaf.shape9, FmtStop.pack x.data.toList) w := by kernel_rfl
attribute [local go_sem] Ybaf.op9_115
theorem Ybaf.act27_118w (name : String) (x : Value) (w : World) : (FmtCalls.act name true 118 false (.iface 27 x)).run Ybaf.prog w = .ok (.call false) w := by kernel_rfl
attribute [local go_sem] Ybaf.act27_118w
theorem Ybaf.isString27 (w : World) : (FmtDoors.textMethod 27 "String").run Ybaf.prog w = .ok true w := by kernel_rfl
attribute [local go_sem] Ybaf.isString27
theorem Ybaf.invokeString27 (x : Value) (w : World) : (invoke (.fn (.method "String") #[]) #[.iface 27 x]).run Ybaf.prog w = .ok (.enter 14 #[x]) w := by kernel_rfl
theorem Ybaf.str27 (w : World) : (typeStr 27).run Ybaf.prog w = .ok "series.Period" w := by kernel_rfl
attribute [local go_sem] Ybaf.str27
theorem Ybaf.str2 (w : World) : (typeStr 2).run Ybaf.prog w = .ok "int64" w := by kernel_rfl
attribute [local go_sem] Ybaf.str2
theorem Ybaf.ptr57 (w : World) : (FmtStop.ptrTo "errors.errorString").run Ybaf.prog w = .ok 57 w := by kernel_rfl
attribute [local go_sem] Ybaf.ptr57
theorem Ybaf.elem57 (w : World) : (elemOf 57).run Ybaf.prog w = .ok 59 w := by kernel_rfl
attribute [local go_sem] Ybaf.elem57

set_option maxRecDepth 100000 in
set_option maxHeartbeats 800000 in
/-- (Period).String: a string comes back, and nothing that was there is changed. -/
theorem string_any (F : Interp) (L : Int) (y sp : Bool) (w : World) (hF : F.answers w.tape) :
    Calls Ybaf.prog 14 #[.agg #[.int .i64 L, .bool y, .bool sp]] w fun e w' => (∃ s, e = .returned (.string s)) ∧ Below w.heap.size w w' := by
  have hF' := answers_open hF
  cases y <;> by_cases hL : L = 1
  all_goals
    go_enter Ybaf.func14, Ybaf.ntmps14
    go_wp2
    go_ret
    exact ⟨⟨_, rfl⟩, (((Below.refl _ w).alloc (Nat.le_refl _) _).alloc (by simp) _).drew⟩

set_option maxRecDepth 100000 in
set_option maxHeartbeats 800000 in
/-- fmt.Errorf at longerThan's format: a new error of errors.New's make. -/
theorem errorf_any (F : Interp) (L n : Int) (y sp : Bool) (blk : Nat) (w : World) (hF : F.answers w.tape)
    (hc0 : w.cell? ⟨blk, 0, none⟩ = some (.iface 27 (.agg #[.int .i64 L, .bool y, .bool sp]))) (hc1 : w.cell? ⟨blk, 1, none⟩ = some (.iface 2 (.int .i64 n))) :
    Calls Ybaf.prog 11 #[.string fmtL, .slice (some ⟨blk, 0, none⟩) 2 2] w fun e w' =>
      ∃ (N : Nat) (s : ByteArray), w.heap.size ≤ N ∧ e = .returned (.iface 57 (.pointer (some ⟨N, 0, none⟩))) ∧ w'.heap[N]? = some (.cells #[.string s] 59 (0, 0)) ∧ Below w.heap.size w w' := by
  have hF' := answers_open hF
  have hb : blk < w.heap.size := World.block_lt_of_cell? _ _ hc0
  go_enter Ybaf.func11, Ybaf.ntmps11
  go_wp2
  apply rows_call Ybaf.nextTurns
  case hr =>
    go_simp
    exact ⟨⟨rfl, rfl, rfl⟩, rfl⟩
  case hi => exact Ybaf.invokeString27 _ _
  case hc =>
    refine (string_any F L y sp _ hF).mono fun e w₃ ⟨⟨s, he⟩, hx⟩ => ?_
    subst he
    have hF3 := answers_open (show F.answers w₃.tape by rw [hx.tape]; exact hF)
    have hc03 : w₃.cell? ⟨blk, 0, none⟩ = some (.iface 27 (.agg #[.int .i64 L, .bool y, .bool sp])) := by rw [hx.cell hb]; exact hc0
    have hc13 : w₃.cell? ⟨blk, 1, none⟩ = some (.iface 2 (.int .i64 n)) := by rw [hx.cell hb]; exact hc1
    apply rows_value Ybaf.nextReturned
    case hr =>
      go_simp
      exact ⟨rfl, rfl⟩
    case h =>
      go_wp2
      go_ret
      exact ⟨w₃.heap.size, _, hx.size, rfl, by show (w₃.heap.push _)[w₃.heap.size]? = _; exact Array.getElem?_push_size, (hx.alloc hx.size _).drew⟩

end Go.Proofs.YbulkazqwFmt
