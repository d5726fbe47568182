/-
  DERIVED. THE WALK of series.LawS2544CModel, branch by branch, and the plain law's arithmetic.
-/
import Derived.Test.YbulkazqwFmtRows
import Derived.Test.YbulkazqwFmtIs
import Derived.Test.YbulkazqwFmtAdmits
namespace Go.Proofs.YbulkazqwFmt
open Go.RowKit Go.Extern.Stop Go.Stop Go.Extern

theorem block_there {w : World} {b : Nat} {o : Obj} (h : w.heap[b]? = some o) : b < w.heap.size := by
  rcases Nat.lt_or_ge b w.heap.size with k | k
  · exact k
  · rw [Array.getElem?_eq_none k] at h; cases h

theorem sp_at {w : World} {a : Nat} {b q r : Bool} {L : Int} {y : Bool} (h : w.cell? ⟨a, 0, none⟩ = some (.bool b)) (hq : (b == q) = r) : Sp w (some ⟨a, 0, none⟩) r q L y := by
  subst hq
  exact sp_some w a b q L y h

set_option maxRecDepth 100000 in
set_option maxHeartbeats 1000000 in
theorem law_far (hsp sp hm : Bool) (n L : Int) (ps : Bool) (w : World) (hL : 1125899906842624 < L ∨ L < -1125899906842624) :
    Calls Ybaf.prog 3 #[.bool hsp, .bool sp, .bool hm, .int .i64 n, .int .i64 L, .bool true, .bool ps] w fun e w' => e = .returned (.bool true) ∧ Below w.heap.size w w' := by
  by_cases h1 : 1125899906842624 < L
  · have d1 : decide (1125899906842624 < L) = true := by simpa using h1
    clear hL
    go_enter Ybaf.func3, Ybaf.ntmps3
    go_wp2
    go_ret
    exact ⟨rfl, Below.refl _ _⟩
  · have d1 : decide (1125899906842624 < L) = false := by simpa using h1
    have d2 : decide (L < -1125899906842624) = true := by simp; omega
    clear hL
    go_enter Ybaf.func3, Ybaf.ntmps3
    go_wp2
    go_ret
    exact ⟨rfl, Below.refl _ _⟩

/-- The law goes on: a period in years is not too long for the exact model. -/
def Near (y : Bool) (L : Int) : Prop := y = true → decide (1125899906842624 < L) = false ∧ decide (L < -1125899906842624) = false

set_option maxRecDepth 100000 in
set_option maxHeartbeats 1000000 in
theorem law_mark (sp hm : Bool) (n L : Int) (y ps : Bool) (w : World) (hL : Near y L) (hq : (sp == ps) = false) :
    Calls Ybaf.prog 3 #[.bool true, .bool sp, .bool hm, .int .i64 n, .int .i64 L, .bool y, .bool ps] w fun e w' => e = .returned (.bool true) ∧ Below w.heap.size w w' := by
  cases y <;> cases hm
  all_goals
    try have d1 := (hL rfl).1
    try have d2 := (hL rfl).2
    clear hL
    go_enter Ybaf.func3, Ybaf.ntmps3
    go_wp2_with fail
    refine (admits_not _ _ _ _ _ _ ?_).mono ?_
    · exact sp_at (by go_simp) hq
    rintro e w1 ⟨rfl, hB⟩
    go_wp2
    go_ret
    exact ⟨rfl, (Below.trans (by repeat' (first | exact Below.refl _ _ | (refine Below.alloc ?_ (by first | omega | (simp; done) | (simp; omega)) _))) (hB.mono (by first | omega | (simp; done) | (simp; omega))))⟩

set_option maxRecDepth 100000 in
set_option maxHeartbeats 1000000 in
theorem law_any (hsp sp : Bool) (n L : Int) (y : Bool) (ps : Bool) (w : World) (hL : Near y L) (hq : hsp = true → sp = ps) :
    Calls Ybaf.prog 3 #[.bool hsp, .bool sp, .bool false, .int .i64 n, .int .i64 L, .bool y, .bool ps] w fun e w' => e = .returned (.bool true) ∧ Below w.heap.size w w' := by
  cases hsp <;> cases y
  all_goals
    try obtain rfl := hq rfl
    clear hq
    try have d1 := (hL rfl).1
    try have d2 := (hL rfl).2
    clear hL
    go_enter Ybaf.func3, Ybaf.ntmps3
    go_wp2_with fail
    refine (admits_any _ _ _ _ _ ?_).mono ?_
    · first | exact sp_nil _ _ _ _ | exact sp_at (b := sp) (by go_simp) (by simp)
    rintro e w1 ⟨rfl, hB⟩
    go_wp2
    go_ret
    exact ⟨rfl, (Below.trans (by repeat' (first | exact Below.refl _ _ | (refine Below.alloc ?_ (by first | omega | (simp; done) | (simp; omega)) _))) (hB.mono (by first | omega | (simp; done) | (simp; omega))))⟩

set_option maxRecDepth 100000 in
set_option maxHeartbeats 1000000 in
theorem law_zero (hsp sp : Bool) (n : Int) (y : Bool) (ps : Bool) (a0 : Addr) (w : World) (hv : w.cell? ⟨0, 0, none⟩ = some (.iface 57 (.pointer (some a0)))) (hL : Near y 0) (hq : hsp = true → sp = ps) :
    Calls Ybaf.prog 3 #[.bool hsp, .bool sp, .bool true, .int .i64 n, .int .i64 0, .bool y, .bool ps] w fun e w' => e = .returned (.bool true) ∧ Below w.heap.size w w' := by
  have h0 : 0 < w.heap.size := World.block_lt_of_cell? _ _ hv
  cases hsp <;> cases y
  all_goals
    try obtain rfl := hq rfl
    clear hq
    try have d1 := (hL rfl).1
    try have d2 := (hL rfl).2
    clear hL
    go_enter Ybaf.func3, Ybaf.ntmps3
    go_wp2_with fail
    refine (admits_long _ _ _ _ n _ _ (fun b v _ => b = false ∧ v = .iface 57 (.pointer (some a0))) ?_ ?_ ?_).mono ?_
    · go_simp
    · first | exact sp_nil _ _ _ _ | exact sp_at (b := sp) (by go_simp) (by simp)
    · exact fun w1 hb => (longer_zero n _ _ _ w1 (by rw [hb.cell (by simp; try omega)]; go_simp)).mono fun e w' ⟨he, hB⟩ => ⟨_, _, he, hB, rfl, rfl⟩
    rintro e w1 ⟨b, v, rfl, hB, rfl, rfl⟩
    have hB' : Below w.heap.size w w1 := (Below.trans (by repeat' (first | exact Below.refl _ _ | (refine Below.alloc ?_ (by first | omega | (simp; done) | (simp; omega)) _))) (hB.mono (by first | omega | (simp; done) | (simp; omega))))
    have g0 : w1.cell? ⟨0, 0, none⟩ = some (.iface 57 (.pointer (some a0))) := by rw [hB'.cell h0]; exact hv
    have HB := hide hB'
    clear hB hB'
    go_wp2_with fail
    refine (is_same a0 w1).mono ?_
    rintro e w2 ⟨rfl, rfl⟩
    go_wp2
    go_ret
    exact ⟨rfl, HB.out⟩

set_option maxRecDepth 100000 in
set_option maxHeartbeats 1000000 in
theorem law_days (hsp sp : Bool) (n L : Int) (ps : Bool) (w : World) (hz : L ≠ 0) (hq : hsp = true → sp = ps) :
    Calls Ybaf.prog 3 #[.bool hsp, .bool sp, .bool true, .int .i64 n, .int .i64 L, .bool false, .bool ps] w fun e w' => e = .returned (.bool true) ∧ Below w.heap.size w w' := by
  have hz' : (L == 0) = false := by simpa using hz
  have HZ := hide hz
  clear hz
  cases hsp
  all_goals
    try obtain rfl := hq rfl
    clear hq
    go_enter Ybaf.func3, Ybaf.ntmps3
    go_wp2_with fail
    refine (admits_long _ _ _ _ n _ _ (fun b v _ => b = decide (n < L) ∧ v = .nilIface) ?_ ?_ ?_).mono ?_
    · go_simp
    · first | exact sp_nil _ _ _ _ | exact sp_at (b := sp) (by go_simp) (by simp)
    · exact fun w1 hb => (longer_days L n _ w1 HZ.out).mono fun e w' ⟨he, hB⟩ => ⟨_, _, he, hB, rfl, rfl⟩
    rintro e w1 ⟨b, v, rfl, hB, rfl, rfl⟩
    go_wp2
    go_ret
    exact ⟨rfl, (Below.trans (by repeat' (first | exact Below.refl _ _ | (refine Below.alloc ?_ (by first | omega | (simp; done) | (simp; omega)) _))) (hB.mono (by first | omega | (simp; done) | (simp; omega))))⟩

set_option maxRecDepth 100000 in
set_option maxHeartbeats 1000000 in
theorem law_neg_more (hsp sp : Bool) (n L : Int) (ps : Bool) (w : World) (hL : Near true L) (hz : L ≠ 0) (hn : n < 0) (h1 : wrap64 (n.tdiv 365) < L) (hq : hsp = true → sp = ps) :
    Calls Ybaf.prog 3 #[.bool hsp, .bool sp, .bool true, .int .i64 n, .int .i64 L, .bool true, .bool ps] w fun e w' => e = .returned (.bool true) ∧ Below w.heap.size w w' := by
  have hz' : (L == 0) = false := by simpa using hz
  have HZ := hide hz
  clear hz
  have dn : decide (n < 0) = true := by simpa using hn
  have e1 : decide (wrap64 (n.tdiv 365) < L) = true := by simpa using h1
  clear h1
  cases hsp
  all_goals
    try obtain rfl := hq rfl
    clear hq
    try have d1 := (hL rfl).1
    try have d2 := (hL rfl).2
    clear hL
    go_enter Ybaf.func3, Ybaf.ntmps3
    go_wp2_with fail
    refine (admits_long _ _ _ _ n _ _ (fun b v _ => b = true ∧ v = .nilIface) ?_ ?_ ?_).mono ?_
    · go_simp
    · first | exact sp_nil _ _ _ _ | exact sp_at (b := sp) (by go_simp) (by simp)
    · exact fun w1 hb => (longer_more L n _ w1 HZ.out (of_decide_eq_true e1)).mono fun e w' ⟨he, hB⟩ => ⟨_, _, he, hB, rfl, rfl⟩
    rintro e w1 ⟨b, v, rfl, hB, rfl, rfl⟩
    go_wp2
    go_ret
    exact ⟨rfl, (Below.trans (by repeat' (first | exact Below.refl _ _ | (refine Below.alloc ?_ (by first | omega | (simp; done) | (simp; omega)) _))) (hB.mono (by first | omega | (simp; done) | (simp; omega))))⟩

set_option maxRecDepth 100000 in
set_option maxHeartbeats 1000000 in
theorem law_neg_less (hsp sp : Bool) (n L : Int) (ps : Bool) (w : World) (hL : Near true L) (hz : L ≠ 0) (hn : n < 0) (h1 : ¬ wrap64 (n.tdiv 365) < L) (h2 : L ≤ wrap64 (n.tdiv 366)) (hq : hsp = true → sp = ps) :
    Calls Ybaf.prog 3 #[.bool hsp, .bool sp, .bool true, .int .i64 n, .int .i64 L, .bool true, .bool ps] w fun e w' => e = .returned (.bool true) ∧ Below w.heap.size w w' := by
  have hz' : (L == 0) = false := by simpa using hz
  have HZ := hide hz
  clear hz
  have dn : decide (n < 0) = true := by simpa using hn
  have e1 : decide (wrap64 (n.tdiv 365) < L) = false := by simpa using h1
  clear h1
  have e2 : decide (L ≤ wrap64 (n.tdiv 366)) = true := by simpa using h2
  clear h2
  cases hsp
  all_goals
    try obtain rfl := hq rfl
    clear hq
    try have d1 := (hL rfl).1
    try have d2 := (hL rfl).2
    clear hL
    go_enter Ybaf.func3, Ybaf.ntmps3
    go_wp2_with fail
    refine (admits_long _ _ _ _ n _ _ (fun b v _ => b = false ∧ v = .nilIface) ?_ ?_ ?_).mono ?_
    · go_simp
    · first | exact sp_nil _ _ _ _ | exact sp_at (b := sp) (by go_simp) (by simp)
    · exact fun w1 hb => (longer_less L n _ w1 HZ.out (of_decide_eq_false e1) (of_decide_eq_true e2)).mono fun e w' ⟨he, hB⟩ => ⟨_, _, he, hB, rfl, rfl⟩
    rintro e w1 ⟨b, v, rfl, hB, rfl, rfl⟩
    go_wp2
    go_ret
    exact ⟨rfl, (Below.trans (by repeat' (first | exact Below.refl _ _ | (refine Below.alloc ?_ (by first | omega | (simp; done) | (simp; omega)) _))) (hB.mono (by first | omega | (simp; done) | (simp; omega))))⟩

set_option maxRecDepth 100000 in
set_option maxHeartbeats 1000000 in
theorem law_pos_more (hsp sp : Bool) (n L : Int) (ps : Bool) (w : World) (hL : Near true L) (hz : L ≠ 0) (hn : ¬ n < 0) (h1 : wrap64 (n.tdiv 365) < L) (m1 : decide (n < wrap64 (L * 365)) = true) (hq : hsp = true → sp = ps) :
    Calls Ybaf.prog 3 #[.bool hsp, .bool sp, .bool true, .int .i64 n, .int .i64 L, .bool true, .bool ps] w fun e w' => e = .returned (.bool true) ∧ Below w.heap.size w w' := by
  have hz' : (L == 0) = false := by simpa using hz
  have HZ := hide hz
  clear hz
  have dn : decide (n < 0) = false := by simpa using hn
  have e1 : decide (wrap64 (n.tdiv 365) < L) = true := by simpa using h1
  clear h1
  cases hsp
  all_goals
    try obtain rfl := hq rfl
    clear hq
    try have d1 := (hL rfl).1
    try have d2 := (hL rfl).2
    clear hL
    go_enter Ybaf.func3, Ybaf.ntmps3
    go_wp2_with fail
    refine (admits_long _ _ _ _ n _ _ (fun b v _ => b = true ∧ v = .nilIface) ?_ ?_ ?_).mono ?_
    · go_simp
    · first | exact sp_nil _ _ _ _ | exact sp_at (b := sp) (by go_simp) (by simp)
    · exact fun w1 hb => (longer_more L n _ w1 HZ.out (of_decide_eq_true e1)).mono fun e w' ⟨he, hB⟩ => ⟨_, _, he, hB, rfl, rfl⟩
    rintro e w1 ⟨b, v, rfl, hB, rfl, rfl⟩
    go_wp2
    go_ret
    exact ⟨rfl, (Below.trans (by repeat' (first | exact Below.refl _ _ | (refine Below.alloc ?_ (by first | omega | (simp; done) | (simp; omega)) _))) (hB.mono (by first | omega | (simp; done) | (simp; omega))))⟩

set_option maxRecDepth 100000 in
set_option maxHeartbeats 1000000 in
theorem law_pos_less (hsp sp : Bool) (n L : Int) (ps : Bool) (w : World) (hL : Near true L) (hz : L ≠ 0) (hn : ¬ n < 0) (h1 : ¬ wrap64 (n.tdiv 365) < L) (h2 : L ≤ wrap64 (n.tdiv 366)) (m1 : decide (n < wrap64 (L * 365)) = false) (m2 : decide (wrap64 (L * 366) ≤ n) = true) (hq : hsp = true → sp = ps) :
    Calls Ybaf.prog 3 #[.bool hsp, .bool sp, .bool true, .int .i64 n, .int .i64 L, .bool true, .bool ps] w fun e w' => e = .returned (.bool true) ∧ Below w.heap.size w w' := by
  have hz' : (L == 0) = false := by simpa using hz
  have HZ := hide hz
  clear hz
  have dn : decide (n < 0) = false := by simpa using hn
  have e1 : decide (wrap64 (n.tdiv 365) < L) = false := by simpa using h1
  clear h1
  have e2 : decide (L ≤ wrap64 (n.tdiv 366)) = true := by simpa using h2
  clear h2
  cases hsp
  all_goals
    try obtain rfl := hq rfl
    clear hq
    try have d1 := (hL rfl).1
    try have d2 := (hL rfl).2
    clear hL
    go_enter Ybaf.func3, Ybaf.ntmps3
    go_wp2_with fail
    refine (admits_long _ _ _ _ n _ _ (fun b v _ => b = false ∧ v = .nilIface) ?_ ?_ ?_).mono ?_
    · go_simp
    · first | exact sp_nil _ _ _ _ | exact sp_at (b := sp) (by go_simp) (by simp)
    · exact fun w1 hb => (longer_less L n _ w1 HZ.out (of_decide_eq_false e1) (of_decide_eq_true e2)).mono fun e w' ⟨he, hB⟩ => ⟨_, _, he, hB, rfl, rfl⟩
    rintro e w1 ⟨b, v, rfl, hB, rfl, rfl⟩
    go_wp2
    go_ret
    exact ⟨rfl, (Below.trans (by repeat' (first | exact Below.refl _ _ | (refine Below.alloc ?_ (by first | omega | (simp; done) | (simp; omega)) _))) (hB.mono (by first | omega | (simp; done) | (simp; omega))))⟩

set_option maxRecDepth 100000 in
set_option maxHeartbeats 1000000 in
theorem law_neg_dates (F : Interp) (hsp sp : Bool) (n L : Int) (ps : Bool) (w : World) (hF : F.answers w.tape) (hL : Near true L) (hz : L ≠ 0) (hn : n < 0) (h1 : ¬ wrap64 (n.tdiv 365) < L) (h2 : ¬ L ≤ wrap64 (n.tdiv 366)) (hq : hsp = true → sp = ps) :
    Calls Ybaf.prog 3 #[.bool hsp, .bool sp, .bool true, .int .i64 n, .int .i64 L, .bool true, .bool ps] w fun e w' => e = .returned (.bool true) ∧ Below w.heap.size w w' := by
  have hz' : (L == 0) = false := by simpa using hz
  have HZ := hide hz
  clear hz
  have HF := hide hF
  clear hF
  have dn : decide (n < 0) = true := by simpa using hn
  have e1 : decide (wrap64 (n.tdiv 365) < L) = false := by simpa using h1
  clear h1
  have e2 : decide (L ≤ wrap64 (n.tdiv 366)) = false := by simpa using h2
  clear h2
  cases hsp
  all_goals
    try obtain rfl := hq rfl
    clear hq
    try have d1 := (hL rfl).1
    try have d2 := (hL rfl).2
    clear hL
    go_enter Ybaf.func3, Ybaf.ntmps3
    go_wp2_with fail
    refine (admits_long _ _ _ _ n _ _ (fun b v w' => b = false ∧ ∃ (N : Nat) (s : ByteArray), w.heap.size ≤ N ∧ v = .iface 57 (.pointer (some ⟨N, 0, none⟩)) ∧ w'.heap[N]? = some (.cells #[.string s] 59 (0, 0))) ?_ ?_ ?_).mono ?_
    · go_simp
    · first | exact sp_nil _ _ _ _ | exact sp_at (b := sp) (by go_simp) (by simp)
    · exact fun w1 hb => (longer_dates F L n _ w1 (by rw [hb.tape]; exact HF.out) HZ.out (of_decide_eq_false e1) (of_decide_eq_false e2)).mono fun e w' ⟨N, s, hN, he, hN2, hB⟩ => ⟨_, _, he, hB, rfl, N, s, Nat.le_trans (Nat.le_trans (by first | omega | (simp; done) | (simp; omega)) hb.size) hN, rfl, hN2⟩
    rintro e w1 ⟨b, v, rfl, hB, rfl, N, s, hN, rfl, hN2⟩
    clear hN2
    go_wp2
    go_ret
    exact ⟨rfl, (Below.trans (by repeat' (first | exact Below.refl _ _ | (refine Below.alloc ?_ (by first | omega | (simp; done) | (simp; omega)) _))) (hB.mono (by first | omega | (simp; done) | (simp; omega))))⟩

set_option maxRecDepth 100000 in
set_option maxHeartbeats 1000000 in
theorem law_pos_dates (F : Interp) (hsp sp : Bool) (n L : Int) (ps : Bool) (w : World) (a0 : Addr) (c0 : Array Value) (t0 : TypeId) (hF : F.answers w.tape) (hv : w.cell? ⟨0, 0, none⟩ = some (.iface 57 (.pointer (some a0)))) (hb0 : w.heap[a0.block]? = some (.cells c0 t0 (0, 0))) (hL : Near true L) (hz : L ≠ 0) (hn : ¬ n < 0) (h1 : ¬ wrap64 (n.tdiv 365) < L) (h2 : ¬ L ≤ wrap64 (n.tdiv 366)) (m1 : decide (n < wrap64 (L * 365)) = false) (m2 : decide (wrap64 (L * 366) ≤ n) = false) (hq : hsp = true → sp = ps) :
    Calls Ybaf.prog 3 #[.bool hsp, .bool sp, .bool true, .int .i64 n, .int .i64 L, .bool true, .bool ps] w fun e w' => e = .returned (.bool true) ∧ Below w.heap.size w w' := by
  have hz' : (L == 0) = false := by simpa using hz
  have HZ := hide hz
  clear hz
  have h0 : 0 < w.heap.size := World.block_lt_of_cell? _ _ hv
  have hlt : a0.block < w.heap.size := block_there hb0
  have HF := hide hF
  clear hF
  have dn : decide (n < 0) = false := by simpa using hn
  have e1 : decide (wrap64 (n.tdiv 365) < L) = false := by simpa using h1
  clear h1
  have e2 : decide (L ≤ wrap64 (n.tdiv 366)) = false := by simpa using h2
  clear h2
  cases hsp
  all_goals
    try obtain rfl := hq rfl
    clear hq
    try have d1 := (hL rfl).1
    try have d2 := (hL rfl).2
    clear hL
    go_enter Ybaf.func3, Ybaf.ntmps3
    go_wp2_with fail
    refine (admits_long _ _ _ _ n _ _ (fun b v w' => b = false ∧ ∃ (N : Nat) (s : ByteArray), w.heap.size ≤ N ∧ v = .iface 57 (.pointer (some ⟨N, 0, none⟩)) ∧ w'.heap[N]? = some (.cells #[.string s] 59 (0, 0))) ?_ ?_ ?_).mono ?_
    · go_simp
    · first | exact sp_nil _ _ _ _ | exact sp_at (b := sp) (by go_simp) (by simp)
    · exact fun w1 hb => (longer_dates F L n _ w1 (by rw [hb.tape]; exact HF.out) HZ.out (of_decide_eq_false e1) (of_decide_eq_false e2)).mono fun e w' ⟨N, s, hN, he, hN2, hB⟩ => ⟨_, _, he, hB, rfl, N, s, Nat.le_trans (Nat.le_trans (by first | omega | (simp; done) | (simp; omega)) hb.size) hN, rfl, hN2⟩
    rintro e w1 ⟨b, v, rfl, hB, rfl, N, s, hN, rfl, hN2⟩
    have hB' : Below w.heap.size w w1 := (Below.trans (by repeat' (first | exact Below.refl _ _ | (refine Below.alloc ?_ (by first | omega | (simp; done) | (simp; omega)) _))) (hB.mono (by first | omega | (simp; done) | (simp; omega))))
    have g0 : w1.cell? ⟨0, 0, none⟩ = some (.iface 57 (.pointer (some a0))) := by rw [hB'.cell h0]; exact hv
    have hb1 : w1.heap[a0.block]? = some (.cells c0 t0 (0, 0)) := by rw [hB'.block _ hlt]; exact hb0
    have HI := hide (is_other ⟨N, 0, none⟩ a0 _ _ _ _ w1 (by intro e; subst e; exact absurd hlt (by simp; omega)) hN2 hb1)
    have HB := hide hB'
    clear hB hB' hN2 hb1
    go_wp2_with fail
    refine HI.out.mono ?_
    rintro e w2 ⟨rfl, rfl⟩
    go_wp2
    go_ret
    exact ⟨rfl, HB.out⟩


/-! ### THE PLAIN LAW -/
theorem wrap64_at (x : Int) (h : -9223372036854775808 ≤ x ∧ x ≤ 9223372036854775807) : wrap64 x = x := by
  unfold wrap64; omega

/-- WHATEVER THE INPUT: true. -/
theorem law_all (F : Interp) (hsp sp hm : Bool) (n L : Int) (y ps : Bool) (a0 : Addr) (c0 : Array Value) (t0 : TypeId) (w : World) (hmax : n ≤ 9223372036854775807) (hF : F.answers w.tape)
    (hv : w.cell? ⟨0, 0, none⟩ = some (.iface 57 (.pointer (some a0)))) (hb0 : w.heap[a0.block]? = some (.cells c0 t0 (0, 0))) :
    Calls Ybaf.prog 3 #[.bool hsp, .bool sp, .bool hm, .int .i64 n, .int .i64 L, .bool y, .bool ps] w fun e w' => e = .returned (.bool true) ∧ Below w.heap.size w w' := by
  by_cases hfar : y = true ∧ (1125899906842624 < L ∨ L < -1125899906842624)
  · obtain ⟨rfl, h⟩ := hfar
    exact law_far hsp sp hm n L ps w h
  have hL : Near y L := fun h => ⟨decide_eq_false fun k => hfar ⟨h, .inl k⟩, decide_eq_false fun k => hfar ⟨h, .inr k⟩⟩
  by_cases hmark : hsp = true ∧ (sp == ps) = false
  · obtain ⟨rfl, h⟩ := hmark
    exact law_mark sp hm n L y ps w hL h
  have hq : hsp = true → sp = ps := fun h => by
    have : ¬ (sp == ps) = false := fun k => hmark ⟨h, k⟩
    simpa using this
  cases hm
  · exact law_any hsp sp n L y ps w hL hq
  by_cases hz : L = 0
  · subst hz
    exact law_zero hsp sp n y ps a0 w hv hL hq
  cases y
  · exact law_days hsp sp n L ps w hz hq
  obtain ⟨b1, b2⟩ : ¬ 1125899906842624 < L ∧ ¬ L < -1125899906842624 := ⟨of_decide_eq_false (hL rfl).1, of_decide_eq_false (hL rfl).2⟩
  by_cases hn : n < 0
  · by_cases h1 : wrap64 (n.tdiv 365) < L
    · exact law_neg_more hsp sp n L ps w hL hz hn h1 hq
    by_cases h2 : L ≤ wrap64 (n.tdiv 366)
    · exact law_neg_less hsp sp n L ps w hL hz hn h1 h2 hq
    · exact law_neg_dates F hsp sp n L ps w hF hL hz hn h1 h2 hq
  have q5 : wrap64 (n.tdiv 365) = n / 365 := by
    rw [Int.tdiv_eq_ediv_of_nonneg (by omega)]; exact wrap64_at _ (by omega)
  have q6 : wrap64 (n.tdiv 366) = n / 366 := by
    rw [Int.tdiv_eq_ediv_of_nonneg (by omega)]; exact wrap64_at _ (by omega)
  have p5 : wrap64 (L * 365) = L * 365 := wrap64_at _ (by omega)
  have p6 : wrap64 (L * 366) = L * 366 := wrap64_at _ (by omega)
  by_cases h1 : wrap64 (n.tdiv 365) < L
  · exact law_pos_more hsp sp n L ps w hL hz hn h1 (decide_eq_true (by omega)) hq
  by_cases h2 : L ≤ wrap64 (n.tdiv 366)
  · exact law_pos_less hsp sp n L ps w hL hz hn h1 h2 (decide_eq_false (by omega)) (decide_eq_true (by omega)) hq
  · exact law_pos_dates F hsp sp n L ps w a0 c0 t0 hF hv hb0 hL hz hn h1 h2 (decide_eq_false (by omega)) (decide_eq_false (by omega)) hq
end Go.Proofs.YbulkazqwFmt
