import Derived.Test.YbulkazkkRows
import Derived.WalkKit
import Derived.BigQuiet
import Derived.Deep.QuietTactic
import Derived.WalkLawsBesides
namespace Go.Proofs.Ybulkazkk.Ticks
open Go.ChangeShapes Go.WideShapes Go.RowKit
set_option linter.unusedVariables false

theorem wrapu (x : Int) : IntKind.u64.wrap x = x % 18446744073709551616 := by
  simp [IntKind.wrap, IntKind.bits, IntKind.signed]
theorem wrapu_nn (x : Int) : 0 ≤ IntKind.u64.wrap x := by rw [wrapu]; omega

/-- The tick whose kept time 'waited' reads. -/
def fst (since T : Int) : Int := if 8 ≤ IntKind.u64.wrap (T - IntKind.u64.wrap (since + 1)) then IntKind.u64.wrap (IntKind.u64.wrap (T - 8) + 1) else IntKind.u64.wrap (since + 1)

theorem waited_calls (b : Nat) (since now T v : Int) (w : World) (h25 : w.cell? ⟨b, 25, none⟩ = some (.int .u64 T))
    (hv : w.cell? ⟨b, 26 + (fst since T % 8).toNat, none⟩ = some (.int .i64 v)) :
    Calls Yba.prog 8 #[.pointer (some ⟨b, 0, none⟩), .int .u64 since, .int .i64 now] w fun e w' => e = .returned (.int .i64 (wrap64 (now - v))) ∧ ∃ n, w' = w.drewN n := by
  unfold fst at hv
  by_cases hc : 8 ≤ IntKind.u64.wrap (T - IntKind.u64.wrap (since + 1))
  · rw [if_pos hc] at hv
    go_enter Yba.func8, Yba.ntmps8
    go_wp2
    have hf := wrapu_nn (IntKind.u64.wrap (T - 8) + 1)
    generalize IntKind.u64.wrap (IntKind.u64.wrap (T - 8) + 1) = F at *
    have h1 : F % 8 < 8 := by omega
    have h0 : 0 ≤ F % 8 := by omega
    go_quiet (fail)
    go_wp2
    go_ret
    exact ⟨rfl, _, rfl⟩
  · rw [if_neg hc] at hv
    go_enter Yba.func8, Yba.ntmps8
    go_wp2
    have hf := wrapu_nn (since + 1)
    generalize IntKind.u64.wrap (since + 1) = F at *
    have h1 : F % 8 < 8 := by omega
    have h0 : 0 ≤ F % 8 := by omega
    go_quiet (fail)
    go_wp2
    go_ret
    exact ⟨rfl, _, rfl⟩
end Go.Proofs.Ybulkazkk.Ticks
