import Derived.Test.YbulkazkkRows
import Derived.WalkKit
import Derived.ProofKit
import Derived.OpenShut
import Derived.ShutString
import Derived.ChangeOld
import Derived.Below
import Derived.WalkSmall
import Derived.Test.YbulkazkkTicks
namespace Go.Proofs.Ybulkazkk.lawS2532AReplay
open Go.ChangeShapes Go.WideShapes Go.ChangeAt Go.RowKit
open Go.ChangeMaps (open_string shut_string)
open Go.Proofs.Ybulkazkk.Ticks
set_option linter.unusedVariables false

theorem own : ownKnob Yba.prog.godebug = none := by kernel_rfl
theorem laidOut : laidOutB Yba.prog = true := by kernel_rfl

/-- WHAT THE WALK IS TOLD OF A SLICE OF INTEGERS THAT CAME IN: it is nil; or it leads to a row of 'cap' cells, the numbers 'zs' (the first 'len' are its elements, the rest its spare room), each fitting its kind. -/
def IsRow (k : IntKind) (w : World) (a : Option Addr) (len cap : Nat) (zs : List Int) : Prop :=
  (a = none ∧ len = 0 ∧ cap = 0 ∧ zs = []) ∨
  ∃ x, a = some x ∧ len ≤ cap ∧ cap ≤ maxLen ∧ zs.length = cap ∧ (∀ i, i < zs.length → w.cell? (x.add i) = some (.int k (zs.getD i 0))) ∧ ∀ n ∈ zs, (Lit.int k n).wf = true

/-- The pool's block, as the loop keeps it: the count of ticks T, the eight kept times tt. -/
structure Core (B : Nat) (w wr : World) (T : Int) (tt : Nat → Int) : Prop where
  ticks : wr.cell? ⟨B, 25, none⟩ = some (.int .u64 T)
  times : ∀ j, j < 8 → wr.cell? ⟨B, 26 + j, none⟩ = some (.int .i64 (tt j))
  fz25 : wr.frozen? ⟨B, 25, none⟩ = false
  fz : ∀ j, j < 8 → wr.frozen? ⟨B, 26 + j, none⟩ = false
  bel : Below B w wr

/-- After k ticks. -/
structure Inv (base : Int) (zs : List Int) (k : Nat) (T : Int) (tt : Nat → Int) : Prop where
  t : T = (base + k) % 18446744073709551616
  kept : ∀ m : Nat, m < k → k ≤ m + 8 → tt (((base + m + 1) % 8).toNat) = zs.getD m 0

theorem inv_zero (base : Int) (zs : List Int) (tt : Nat → Int) (h0 : 0 ≤ base) (h1 : base < 18446744073709551616) : Inv base zs 0 base tt :=
  ⟨by omega, fun m h => absurd h (by omega)⟩

theorem inv_step {base : Int} {zs : List Int} {k : Nat} {T : Int} {tt : Nat → Int} (h : Inv base zs k T tt) :
    Inv base zs (k + 1) (IntKind.u64.wrap (T + 1)) (fun i => if i = (IntKind.u64.wrap (T + 1) % 8).toNat then zs.getD k 0 else tt i) := by
  obtain ⟨ht, hk⟩ := h
  refine ⟨by rw [wrapu, ht]; omega, fun m h1 h2 => ?_⟩
  have e : IntKind.u64.wrap (T + 1) % 8 = (base + k + 1) % 8 := by rw [wrapu, ht]; omega
  rw [e]
  by_cases hm : m = k
  · subst hm; simp
  · rw [if_neg (by omega)]
    exact hk m (by omega) (by omega)

theorem far {w : World} {b o o' : Nat} {v : Value} (h : o ≠ o') : (w.setCell ⟨b, o, none⟩ v).cell? ⟨b, o', none⟩ = w.cell? ⟨b, o', none⟩ :=
  World.cell?_setCell_other _ _ _ _ (by intro e; injection e; contradiction)

theorem core_step {B : Nat} {w wr : World} {T T' : Int} {tt : Nat → Int} {j : Nat} {v : Int} (h : Core B w wr T tt) (hj : j < 8) :
    Core B w ((wr.setCell ⟨B, 25, none⟩ (.int .u64 T')).setCell ⟨B, 26 + j, none⟩ (.int .i64 v)).drew T' (fun i => if i = j then v else tt i) := by
  obtain ⟨h1, h2, h3, h4, h5⟩ := h
  refine ⟨?_, fun i hi => ?_, by simpa using h3, fun i hi => by simpa using h4 i hi, ((h5.setCell (Nat.le_refl _) _).setCell (Nat.le_refl _) _).drew⟩
  · rw [World.cell?_drew, far (by omega), World.cell?_setCell_same _ _ _ h1]
  · rw [World.cell?_drew]
    by_cases e : i = j
    · subst e
      rw [if_pos rfl]
      exact World.cell?_setCell_same _ _ _ (u := .int .i64 (tt i)) (by rw [far (by omega)]; exact h2 i hi)
    · rw [if_neg e, far (by omega), far (by omega)]
      exact h2 i hi

/-- The plain law: the time that 'waited' reads is the time of the tick that the law names. -/
theorem law {base : Int} {zs : List Int} {n : Nat} {T : Int} {tt : Nat → Int} (h : Inv base zs n T tt) (rel : Nat) (hr : rel < n) (hn : n ≤ 1024) :
    tt ((fst (IntKind.u64.wrap (base + rel)) T % 8).toNat) = zs.getD (if 8 ≤ n ∧ rel + 1 < n - 7 then n - 8 else rel) 0 := by
  obtain ⟨ht, hk⟩ := h
  have e1 : IntKind.u64.wrap (IntKind.u64.wrap (base + rel) + 1) = (base + rel + 1) % 18446744073709551616 := by rw [wrapu, wrapu]; omega
  have e2 : IntKind.u64.wrap (T - (base + rel + 1) % 18446744073709551616) = (n : Int) - rel - 1 := by rw [wrapu, ht]; omega
  have e3 : IntKind.u64.wrap (IntKind.u64.wrap (T - 8) + 1) = (base + n - 7) % 18446744073709551616 := by rw [wrapu, wrapu, ht]; omega
  unfold fst
  rw [e1, e2, e3]
  by_cases c : 8 ≤ n ∧ rel + 1 < n - 7
  · rw [if_pos (by omega), if_pos c]
    have := hk (n - 8) (by omega) (by omega)
    rw [← this]
    congr 2
    omega
  · rw [if_neg (by omega), if_neg c]
    have := hk rel (by omega) (by omega)
    rw [← this]
    congr 2
    omega

theorem walk_some (b off len cap : Nat) (z0 : List Int) (a1 a2 a3 : Int) (w : World) (hlen : len ≤ cap) (hcap : cap ≤ maxLen) (hz : z0.length = cap) (hp : 0 < len) (hm : len ≤ 1024)
    (hcell : ∀ j, j < z0.length → w.cell? ⟨b, off + j, none⟩ = some (.int .i64 (z0.getD j 0))) (hbw : b < w.heap.size)
    (w1 : 0 ≤ a1 ∧ a1 < 18446744073709551616) (w2 : 0 ≤ a2) (w3 : (Lit.int .i64 a3).wf = true) :
    Calls Yba.prog 3 #[.slice (some ⟨b, off, none⟩) len cap, .int .u64 a1, .int .u64 a2, .int .i64 a3] w fun e w' => e = .returned (.bool true) ∧ Below w.heap.size w w' := by
  have hb0 : ((len : Int) == 0) = false := by simp; omega
  have hb1 : ¬ (1024 : Int) < len := by omega
  unfold maxLen at hcap
  have H1 : Hid (0 ≤ a1 ∧ a1 < 18446744073709551616) := w1
  have HC : Hid (∀ j, j < z0.length → w.cell? ⟨b, off + j, none⟩ = some (.int .i64 (z0.getD j 0))) := hcell
  clear w1 hcell
  go_enter Yba.func3, Yba.ntmps3
  go_wp2
  go_loopw [11] (fun i wr => ∃ k : Nat, ∃ T : Int, ∃ tt : Nat → Int, k ≤ len ∧ i = .int .i64 k ∧ Core w.heap.size w wr T tt ∧ Inv a1 z0 k T tt) (fun i _ => len - (intOf i).toNat)
  case atStart =>
    refine ⟨0, a1, fun _ => 0, Nat.zero_le _, rfl, ⟨by simp, fun j hj => ?_, by simp, fun j hj => by simp, (Below.refl _ _).alloc (Nat.le_refl _) _⟩, inv_zero _ _ _ H1.out.1 H1.out.2⟩
    simp
    match j, hj with
    | 0, _ => rfl
    | 1, _ => rfl
    | 2, _ => rfl
    | 3, _ => rfl
    | 4, _ => rfl
    | 5, _ => rfl
    | 6, _ => rfl
    | 7, _ => rfl
  case round =>
    obtain ⟨k, T, tt, hk, rfl, hC, hI⟩ := hrel
    by_cases hlt : k < len
    · have g25 := hC.ticks
      have f25 := hC.fz25
      have hnn := wrapu_nn (T + 1)
      have hj : (IntKind.u64.wrap (T + 1) % 8).toNat < 8 := by omega
      have gj := hC.times _ hj
      have fj := hC.fz _ hj
      have gz : wr.cell? ⟨b, off + k, none⟩ = some (.int .i64 (z0.getD k 0)) := (hC.bel.cell (by exact hbw)).trans (HC.out k (by omega))
      go_wp2
      go_region

      all_goals go_wp2
      all_goals go_roundw
      case rel => exact ⟨k + 1, _, _, by omega, by go_num, core_step hC hj, inv_step hI⟩
      case measure => simp [intOf]; omega
    · have hkl : k = len := by omega
      subst hkl
      have g25 := hC.ticks
      have hR0 : 0 ≤ a2 % (k : Int) := Int.emod_nonneg _ (by omega)
      have hR1 : a2 % (k : Int) < k := Int.emod_lt_of_pos _ (by omega)
      obtain ⟨r, hr⟩ := Int.eq_ofNat_of_zero_le hR0
      have Hr : Hid (a2 % (k : Int) = (r : Int)) := hr
      rw [hr] at hR1
      clear hr hR0
      have hrk : r < k := by omega
      have hl := law hI r hrk hm
      have h8 : (fst (IntKind.u64.wrap (a1 + r)) T % 8).toNat < 8 := by omega
      have hv := hC.times _ h8
      rw [hl] at hv
      clear hl h8
      by_cases c : 8 ≤ k ∧ r + 1 < k - 7
      · rw [if_pos c] at hv
        obtain ⟨c1, c2⟩ := c
        have gz : wr.cell? ⟨b, off + (k - 7 - 1), none⟩ = some (.int .i64 (z0.getD (k - 8) 0)) := (hC.bel.cell (by exact hbw)).trans (HC.out (k - 8) (by omega))
        have hbel := hC.bel
        clear hC hI
        generalize z0.getD (k - 8) 0 = Z at *
        go_wp2_with fail
        rw [Hr.out]
        refine (waited_calls w.heap.size _ a3 T _ wr g25 hv).mono ?_
        rintro e w' ⟨rfl, nq, rfl⟩
        go_wp2
        go_ret
        exact ⟨by simp, below_drewN hbel _⟩
      · rw [if_neg c] at hv
        have gz : wr.cell? ⟨b, off + r, none⟩ = some (.int .i64 (z0.getD r 0)) := (hC.bel.cell (by exact hbw)).trans (HC.out r (by omega))
        have hbel := hC.bel
        clear hC hI
        generalize z0.getD r 0 = Z at *
        by_cases c1 : 8 ≤ k
        · have c2 : ¬ ((r : Int) + 1 < k - 7) := by omega
          clear c
          go_wp2_with fail
          rw [Hr.out]
          refine (waited_calls w.heap.size _ a3 T _ wr g25 hv).mono ?_
          rintro e w' ⟨rfl, nq, rfl⟩
          go_wp2
          go_ret
          exact ⟨by simp, below_drewN hbel _⟩
        · clear c
          go_wp2_with fail
          rw [Hr.out]
          refine (waited_calls w.heap.size _ a3 T _ wr g25 hv).mono ?_
          rintro e w' ⟨rfl, nq, rfl⟩
          go_wp2
          go_ret
          exact ⟨by simp, below_drewN hbel _⟩
theorem lt_of_cell {w : World} {b o : Nat} {v : Value} (h : w.cell? ⟨b, o, none⟩ = some v) : b < w.heap.size := by
  by_cases hb : b < w.heap.size
  · exact hb
  · simp [World.cell?, Array.getElem?_eq_none (by omega : w.heap.size ≤ b)] at h

theorem walk (a0 : Option Addr) (len0 cap0 : Nat) (z0 : List Int) (a1 : Int) (a2 : Int) (a3 : Int) (w : World) (w0 : IsRow .i64 w a0 len0 cap0 z0) (w1 : (Lit.int .u64 a1).wf = true) (w2 : (Lit.int .u64 a2).wf = true) (w3 : (Lit.int .i64 a3).wf = true) :
    Calls Yba.prog 3 #[.slice a0 len0 cap0, .int .u64 a1, .int .u64 a2, .int .i64 a3] w fun e w' => e = .returned (.bool true) ∧ Below w.heap.size w w' := by
  have b1 : 0 ≤ a1 ∧ a1 < 18446744073709551616 := by have := bounds_u64 w1; omega
  have b2 : 0 ≤ a2 := by have := bounds_u64 w2; omega
  by_cases h0 : len0 = 0
  · subst h0
    go_enter Yba.func3, Yba.ntmps3
    go_wp2
    go_ret
    exact ⟨rfl, Below.refl _ _⟩
  · by_cases hm : len0 ≤ 1024
    · rcases w0 with ⟨_, h, _, _⟩ | ⟨x, rfl, hl, hc, hz, hcell, _⟩
      · exact absurd h h0
      · obtain ⟨b, off, rfl, hc2⟩ := ints_at hcell (by omega)
        have hbw : b < w.heap.size := lt_of_cell (hc2 0 (by omega))
        exact walk_some b off len0 cap0 z0 a1 a2 a3 w hl hc hz (by omega) hm hc2 hbw b1 b2 w3
    · have hb0 : ((len0 : Int) == 0) = false := by simp; omega
      have hb1 : (1024 : Int) < len0 := by omega
      go_enter Yba.func3, Yba.ntmps3
      go_wp2
      go_ret
      exact ⟨rfl, Below.refl _ _⟩

/-! ### THE ROW's STEP: WRITTEN OUT: LEAVE IT -/
set_option maxRecDepth 100000 in
theorem lifted (os : Os) (started : os.Started) (H : Type) (enc : TypeId × Value → H) :
    ReturnsInHanded {} Yba.checked os 3 .any (Rows.lawS2532AReplaySpec.pre6 enc Yba.prog Yba.f3 Rows.lawS2532AReplayRow.domain false) (Rows.lawS2532AReplaySpec.post enc Yba.prog Yba.f3 false true false false) := by
  refine returnsInHanded_of_change (C := Yba.checked) own started (by kernel_rfl) Yba.func3
    (ChangeSpec.witness6 (enc := enc) (C := Yba.checked) false ⟨#[], #[.slice none 0 0, .int .u64 0, .int .u64 0, .int .i64 0], []⟩ 8 (by kernel_rfl) (by kernel_rfl) (by kernel_rfl) (by kernel_rfl)) ?_
  intro W base args ds gs before hval0 hW hcnd _
  have hval : ∀ (j : Nat) t v, Yba.f3.params[j]? = some t → args[j]? = some v → Value.okWide Yba.prog W .any base t v := hval0
  have hW' := hW
  obtain ⟨p, q, hA0, hV, rfl, hfz, hnd⟩ := hW
  have hA : DataW.TrodAll enc Yba.prog W 0 (fun _ => true) true Yba.f3.params.toList args.toList ds p := hA0
  rw [Yba.params3] at hA hval
  obtain ⟨v0, vs0, d0, ds0, p0, q0, hargs, rfl, rfl, h0, r0⟩ := trodAll_cons hA
  obtain ⟨v1, vs1, d1, ds1, p1, q1, rfl, rfl, rfl, h1, r1⟩ := trodAll_cons r0
  obtain ⟨v2, vs2, d2, ds2, p2, q2, rfl, rfl, rfl, h2, r2⟩ := trodAll_cons r1
  obtain ⟨v3, vs3, d3, ds3, p3, q3, rfl, rfl, rfl, h3, r3⟩ := trodAll_cons r2
  obtain ⟨rfl, rfl, rfl⟩ := trodAll_nil r3
  obtain rfl : args = #[v0, v1, v2, v3] := by cases args; simp_all
  obtain ⟨rfl, rfl⟩ := trodVars_none hV
  obtain ⟨a0, len0, cap0, rfl⟩ := okWide_slice Yba.underlying22 (hval 0 22 v0 rfl rfl)
  have k0 := h0
  have lt0 : ∀ x ∈ p0, x.block < W.heap.size := by obtain ⟨m, hm⟩ := k0; exact DataW.trod_lt m _ _ _ hm
  obtain ⟨z0, w0⟩ : ∃ zs, IsRow .i64 W a0 len0 cap0 zs := by
    obtain ⟨fuel, hf⟩ := h0
    rcases open_ints Yba.underlying22 Yba.underlying2 (by kernel_rfl) hf with ⟨hcs, _⟩ | ⟨x, l, c, zs, hcs, _, hl, hm, hz, _, hcell, hwz⟩
    · simp [Value.cells] at hcs
      obtain ⟨rfl, rfl, rfl⟩ := hcs
      exact ⟨[], .inl ⟨rfl, rfl, rfl, rfl⟩⟩
    · simp [Value.cells] at hcs
      obtain ⟨rfl, rfl, rfl⟩ := hcs
      exact ⟨zs, .inr ⟨_, rfl, hl, hm, by simpa using hz, hcell, hwz⟩⟩
  obtain ⟨a1, rfl, rfl, rfl, w1⟩ := open_int Yba.underlying23 (hval 1 23 v1 rfl rfl) h1
  obtain ⟨a2, rfl, rfl, rfl, w2⟩ := open_int Yba.underlying23 (hval 2 23 v2 rfl rfl) h2
  obtain ⟨a3, rfl, rfl, rfl, w3⟩ := open_int Yba.underlying2 (hval 3 2 v3 rfl rfl) h3
  clear hA0 hval0
  refine (walk a0 len0 cap0 z0 a1 a2 a3 W w0 w1 w2 w3).mono fun e W' ⟨he, bel⟩ => ?_
  subst he
  exact ⟨_, rfl, _, _, _, [], _, [], hW', trodAll_mk1 (shut_bool Yba.underlying4 _), (trodAll_cons_mk (Below.trod laidOut (by kernel_rfl) (of_decide_eq_true (by kernel_rfl)) k0 bel lt0) (trodAll_cons_mk (shut_int Yba.underlying23 w1) (trodAll_cons_mk (shut_int Yba.underlying23 w2) (trodAll_cons_mk (shut_int Yba.underlying2 w3) trodAll_mk0)))), rfl, bel.frame _, fun h => by cases h⟩

theorem over : Rows.lawS2532AReplayRow.holds Yba.pinned (OpenSpec.ofChange Rows.lawS2532AReplaySpec) :=
  OpenClaim.holds_of_wide 3 Yba.f3 rfl rfl rfl rfl rfl rfl rfl ⟨rfl, rfl, rfl, rfl, rfl⟩ rfl rfl rfl rfl rfl (by kernel_rfl) Yba.func3 (by kernel_rfl)
    (of_decide_eq_true (by kernel_rfl)) (by unfold Func.isWrapper; first | (rw [if_pos (by decide +kernel)]; kernel_rfl) | (rw [if_neg (by decide +kernel)]; exact ⟨rfl, rfl⟩))
    (fun os started H enc _ => lifted os started H enc)

/-- ████ THE STATEMENT ████ -/
theorem proved : Rows.LawS2532AReplaySaid := over
#print axioms proved
end Go.Proofs.Ybulkazkk.lawS2532AReplay
