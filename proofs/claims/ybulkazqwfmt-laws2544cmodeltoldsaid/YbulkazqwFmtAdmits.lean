/-
  DERIVED. THE WALKS of (Period).longerThan (one contract a branch), admitsSpecial and (PeriodTest).Admits.
-/
import Derived.Test.YbulkazqwFmtSaid
import Derived.WalkKit
import Derived.RowKitTokens
import Derived.WalkLawsBesides
import Derived.WalkSpells
import Derived.WalkSmall
import Derived.BigQuiet
import Derived.Deep.QuietTactic
import Derived.Deep.RegionHeld3
import Derived.Deep.Cut
namespace Go.Proofs.YbulkazqwFmt
open Go.RowKit Go.Extern.Stop Go.Stop Go.Extern

theorem later {W w' : World} {n : Nat} (hB : Below (W.drewN n).heap.size (W.drewN n) w') {a : Addr} {v : Value} (h : W.cell? a = some v) : w'.cell? a = some v := (hB.cell (World.block_lt_of_cell? _ _ h)).trans h

theorem hide {p : Prop} (h : p) : Hid p := h

theorem below_drewN {B : Nat} {w w' : World} (h : Below B w w') (n : Nat) : Below B w (w'.drewN n) := by
  induction n with
  | zero => exact h
  | succ n ih => exact ih.drew

set_option maxRecDepth 100000 in
set_option maxHeartbeats 400000 in
theorem longer_zero (n : Int) (y sp : Bool) (v : Value) (w : World) (hv : w.cell? ⟨0, 0, none⟩ = some v) :
    Calls Ybaf.prog 8 #[.agg #[.int .i64 0, .bool y, .bool sp], .int .i64 n] w fun e w' => e = .returned (.tuple #[.bool false, v]) ∧ Below w.heap.size w w' := by
  have h0 : 0 < w.heap.size := World.block_lt_of_cell? _ _ hv
  go_enter Ybaf.func8, Ybaf.ntmps8
  go_wp2
  go_region
  all_goals
    go_wp2
    go_ret2
    exact ⟨rfl, ((Below.refl _ w).alloc (Nat.le_refl _) _).drew⟩

set_option maxRecDepth 100000 in
set_option maxHeartbeats 400000 in
theorem longer_days (L n : Int) (sp : Bool) (w : World) (hL : L ≠ 0) :
    Calls Ybaf.prog 8 #[.agg #[.int .i64 L, .bool false, .bool sp], .int .i64 n] w fun e w' => e = .returned (.tuple #[.bool (decide (n < L)), .nilIface]) ∧ Below w.heap.size w w' := by
  have hL' : (L == 0) = false := by simpa using hL
  go_enter Ybaf.func8, Ybaf.ntmps8
  go_wp2
  go_ret2
  exact ⟨rfl, (Below.refl _ w).alloc (Nat.le_refl _) _⟩

set_option maxRecDepth 100000 in
set_option maxHeartbeats 400000 in
theorem longer_more (L n : Int) (sp : Bool) (w : World) (hL : L ≠ 0) (h1 : wrap64 (n.tdiv 365) < L) :
    Calls Ybaf.prog 8 #[.agg #[.int .i64 L, .bool true, .bool sp], .int .i64 n] w fun e w' => e = .returned (.tuple #[.bool true, .nilIface]) ∧ Below w.heap.size w w' := by
  have hL' : (L == 0) = false := by simpa using hL
  have d1 : decide (wrap64 (n.tdiv 365) < L) = true := by simpa using h1
  go_enter Ybaf.func8, Ybaf.ntmps8
  go_wp2
  go_ret2
  exact ⟨rfl, (Below.refl _ w).alloc (Nat.le_refl _) _⟩

set_option maxRecDepth 100000 in
set_option maxHeartbeats 400000 in
theorem longer_less (L n : Int) (sp : Bool) (w : World) (hL : L ≠ 0) (h1 : ¬ wrap64 (n.tdiv 365) < L) (h2 : L ≤ wrap64 (n.tdiv 366)) :
    Calls Ybaf.prog 8 #[.agg #[.int .i64 L, .bool true, .bool sp], .int .i64 n] w fun e w' => e = .returned (.tuple #[.bool false, .nilIface]) ∧ Below w.heap.size w w' := by
  have hL' : (L == 0) = false := by simpa using hL
  have d1 : decide (wrap64 (n.tdiv 365) < L) = false := by simpa using h1
  have d2 : decide (L ≤ wrap64 (n.tdiv 366)) = true := by simpa using h2
  go_enter Ybaf.func8, Ybaf.ntmps8
  go_wp2
  go_ret2
  exact ⟨rfl, (Below.refl _ w).alloc (Nat.le_refl _) _⟩

set_option maxRecDepth 100000 in
set_option maxHeartbeats 400000 in
theorem longer_dates (F : Interp) (L n : Int) (sp : Bool) (w : World) (hF : F.answers w.tape) (hL : L ≠ 0) (h1 : ¬ wrap64 (n.tdiv 365) < L) (h2 : ¬ L ≤ wrap64 (n.tdiv 366)) :
    Calls Ybaf.prog 8 #[.agg #[.int .i64 L, .bool true, .bool sp], .int .i64 n] w fun e w' => ∃ (N : Nat) (s : ByteArray), w.heap.size ≤ N ∧
      e = .returned (.tuple #[.bool false, .iface 57 (.pointer (some ⟨N, 0, none⟩))]) ∧ w'.heap[N]? = some (.cells #[.string s] 59 (0, 0)) ∧ Below w.heap.size w w' := by
  have hL' : (L == 0) = false := by simpa using hL
  have d1 : decide (wrap64 (n.tdiv 365) < L) = false := by simpa using h1
  have d2 : decide (L ≤ wrap64 (n.tdiv 366)) = false := by simpa using h2
  go_enter Ybaf.func8, Ybaf.ntmps8
  go_wp2_with fail
  refine (errorf_any F L n true sp (w.heap.size + 1) _ ?_ ?_ ?_).mono ?_
  · exact hF
  · go_simp
  · go_simp
  rintro e w' ⟨N, s, hN, rfl, hb, hB⟩
  go_wp2
  go_ret2
  exact ⟨N, s, by simp at hN; omega, rfl, hb, (((Below.refl _ w).alloc (Nat.le_refl _) _).alloc (by simp) _).trans (hB.mono (by simp; omega))⟩

set_option maxRecDepth 100000 in
set_option maxHeartbeats 400000 in
theorem special_nil (q : Bool) (L : Int) (y : Bool) (w : World) :
    Calls Ybaf.prog 7 #[.pointer none, .agg #[.int .i64 L, .bool y, .bool q]] w fun e w' => e = .returned (.bool true) ∧ Below w.heap.size w w' := by
  go_enter Ybaf.func7, Ybaf.ntmps7
  go_wp2
  go_quiet (fail)
  go_wp2
  go_ret
  exact ⟨rfl, below_drewN ((Below.refl _ w).alloc (Nat.le_refl _) _) _⟩

set_option maxRecDepth 100000 in
set_option maxHeartbeats 400000 in
theorem special_some (b q : Bool) (L : Int) (y : Bool) (a : Nat) (w : World) (h : w.cell? ⟨a, 0, none⟩ = some (.bool b)):
    Calls Ybaf.prog 7 #[.pointer (some ⟨a, 0, none⟩), .agg #[.int .i64 L, .bool y, .bool q]] w fun e w' => e = .returned (.bool (b == q)) ∧ Below w.heap.size w w' := by
  have ha := World.block_lt_of_cell? _ _ h
  go_enter Ybaf.func7, Ybaf.ntmps7
  go_wp2
  go_quiet (fail)
  go_wp2
  go_ret
  exact ⟨rfl, below_drewN ((Below.refl _ w).alloc (Nat.le_refl _) _) _⟩

/-- What admitsSpecial answers at the test 'sa', from the world w on. -/
structure Sp (w : World) (sa : Option Addr) (r q : Bool) (L : Int) (y : Bool) : Prop where
  out : ∀ w1, Below w.heap.size w w1 → Calls Ybaf.prog 7 #[.pointer sa, .agg #[.int .i64 L, .bool y, .bool q]] w1 fun e w' => e = .returned (.bool r) ∧ Below w1.heap.size w1 w'

theorem sp_nil (w : World) (q : Bool) (L : Int) (y : Bool) : Sp w none true q L y := ⟨fun w1 _ => special_nil q L y w1⟩
theorem sp_some (w : World) (a : Nat) (b q : Bool) (L : Int) (y : Bool) (h : w.cell? ⟨a, 0, none⟩ = some (.bool b)) : Sp w (some ⟨a, 0, none⟩) (b == q) q L y :=
  ⟨fun w1 hb => special_some b q L y a w1 (by rw [hb.cell (World.block_lt_of_cell? _ _ h)]; exact h)⟩

set_option maxRecDepth 100000 in
set_option maxHeartbeats 400000 in
/-- Admits, where the test of the mark fails. -/
theorem admits_not (sa ma : Option Addr) (q : Bool) (L : Int) (y : Bool) (w : World) (hs : Sp w sa false q L y) :
    Calls Ybaf.prog 5 #[.agg #[.pointer sa, .pointer ma], .agg #[.int .i64 L, .bool y, .bool q]] w fun e w' => e = .returned (.tuple #[.bool false, .nilIface]) ∧ Below w.heap.size w w' := by
  go_enter Ybaf.func5, Ybaf.ntmps5
  go_wp2_with fail
  refine (hs.out _ (((Below.refl _ w).alloc (Nat.le_refl _) _).alloc (by simp) _)).mono ?_
  rintro e w1 ⟨rfl, hB⟩
  have hB0 : Below w.heap.size w w1 := (((Below.refl _ w).alloc (Nat.le_refl _) _).alloc (by simp) _).trans (hB.mono (by simp; omega))
  go_wp2
  go_ret2
  exact ⟨rfl, hB0⟩

set_option maxRecDepth 100000 in
set_option maxHeartbeats 400000 in
/-- Admits, where no length is asked for. -/
theorem admits_any (sa : Option Addr) (q : Bool) (L : Int) (y : Bool) (w : World) (hs : Sp w sa true q L y) :
    Calls Ybaf.prog 5 #[.agg #[.pointer sa, .pointer none], .agg #[.int .i64 L, .bool y, .bool q]] w fun e w' => e = .returned (.tuple #[.bool true, .nilIface]) ∧ Below w.heap.size w w' := by
  go_enter Ybaf.func5, Ybaf.ntmps5
  go_wp2_with fail
  refine (hs.out _ (((Below.refl _ w).alloc (Nat.le_refl _) _).alloc (by simp) _)).mono ?_
  rintro e w1 ⟨rfl, hB⟩
  have hB0 : Below w.heap.size w w1 := (((Below.refl _ w).alloc (Nat.le_refl _) _).alloc (by simp) _).trans (hB.mono (by simp; omega))
  have c1 : w1.cell? ⟨w.heap.size, 1, none⟩ = some (.pointer none) := by rw [hB.cell (by simp <;> omega)]; go_simp
  go_wp2
  go_ret2
  exact ⟨rfl, hB0⟩

set_option maxRecDepth 100000 in
set_option maxHeartbeats 1000000 in
/-- Admits, where a length is asked for: longerThan's answer. -/
theorem admits_long (sa : Option Addr) (m : Nat) (q : Bool) (L n : Int) (y : Bool) (w : World) (Post : Bool → Value → World → Prop) (hm : w.cell? ⟨m, 0, none⟩ = some (.int .i64 n)) (hs : Sp w sa true q L y)
    (hl : Hid (∀ w1, Below w.heap.size w w1 → Calls Ybaf.prog 8 #[.agg #[.int .i64 L, .bool y, .bool q], .int .i64 n] w1 fun e w' => ∃ b v, e = .returned (.tuple #[.bool b, v]) ∧ Below w1.heap.size w1 w' ∧ Post b v w')) :
    Calls Ybaf.prog 5 #[.agg #[.pointer sa, .pointer (some ⟨m, 0, none⟩)], .agg #[.int .i64 L, .bool y, .bool q]] w fun e w' => ∃ b v, e = .returned (.tuple #[.bool b, v]) ∧ Below w.heap.size w w' ∧ Post b v w' := by
  have hmw := World.block_lt_of_cell? _ _ hm
  go_enter Ybaf.func5, Ybaf.ntmps5
  go_wp2_with fail
  refine (hs.out _ (((Below.refl _ w).alloc (Nat.le_refl _) _).alloc (by simp) _)).mono ?_
  rintro e w1 ⟨rfl, hB⟩
  have hB0 : Below w.heap.size w w1 := (((Below.refl _ w).alloc (Nat.le_refl _) _).alloc (by simp) _).trans (hB.mono (by simp; omega))
  have c1 : w1.cell? ⟨w.heap.size, 1, none⟩ = some (.pointer (some ⟨m, 0, none⟩)) := by rw [hB.cell (by simp <;> omega)]; go_simp
  have p0 : w1.cell? ⟨w.heap.size + 1, 0, none⟩ = some (.int .i64 L) := by rw [hB.cell (by simp <;> omega)]; go_simp
  have p1 : w1.cell? ⟨w.heap.size + 1, 1, none⟩ = some (.bool y) := by rw [hB.cell (by simp <;> omega)]; go_simp
  have p2 : w1.cell? ⟨w.heap.size + 1, 2, none⟩ = some (.bool q) := by rw [hB.cell (by simp <;> omega)]; go_simp
  have m0 : w1.cell? ⟨m, 0, none⟩ = some (.int .i64 n) := by rw [hB0.cell hmw]; exact hm
  have HC : Hid (∀ k, Calls Ybaf.prog 8 #[.agg #[.int .i64 L, .bool y, .bool q], .int .i64 n] (w1.drewN k) fun e w' => ∃ b v, e = .returned (.tuple #[.bool b, v]) ∧ Below (w1.drewN k).heap.size (w1.drewN k) w' ∧ Post b v w') :=
    fun k => hl.out _ (below_drewN hB0 k)
  have HB := hide hB0
  clear hB hB0 hs hm hl
  go_wp2
  go_region_held3 (fun w' => w'.cell? ⟨w.heap.size, 1, none⟩ = some (.pointer (some ⟨m, 0, none⟩)) ∧ w'.cell? ⟨w.heap.size + 1, 0, none⟩ = some (.int .i64 L) ∧ w'.cell? ⟨w.heap.size + 1, 1, none⟩ = some (.bool y) ∧ w'.cell? ⟨w.heap.size + 1, 2, none⟩ = some (.bool q) ∧ w'.cell? ⟨m, 0, none⟩ = some (.int .i64 n)) (first | go_keep | exact ⟨later hB2 c1, later hB2 p0, later hB2 p1, later hB2 p2, later hB2 m0⟩)
    (first | (go_at_call 8; refine (HC.out 1).mono ?_; rintro e w' ⟨b, v, rfl, hB2, hP⟩))
  go_wp2
  go_ret2
  exact ⟨b, v, rfl, (below_drewN HB.out 1).trans (hB2.mono HB.out.size), hP⟩
end Go.Proofs.YbulkazqwFmt
