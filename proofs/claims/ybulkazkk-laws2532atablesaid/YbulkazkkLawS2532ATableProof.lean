import Derived.Test.YbulkazkkRows
import Derived.Test.YbulkazkkTicks
import Derived.WalkKit
import Derived.ProofKit
import Derived.OpenShut
import Derived.ShutString
import Derived.ChangeOld
import Derived.Below
import Derived.WalkSmall
import Derived.BigQuiet
import Derived.Deep.QuietTactic
namespace Go.Proofs.Ybulkazkk.lawS2532ATable
open Go.ChangeShapes Go.WideShapes Go.ChangeAt Go.RowKit
open Go.ChangeMaps (open_string shut_string)
open Go.Proofs.Ybulkazkk.Ticks
set_option linter.unusedVariables false
set_option linter.constructorNameAsVariable false

/-- What lies in memory: the law's own copy of the array (block N), and the pool (block N + 1), its first k times laid. -/
structure Tab (N : Nat) (w wr : World) (xs : Nat → Int) (T : Int) (k : Nat) : Prop where
  arr : ∀ j, j < 8 → wr.cell? ⟨N, j, none⟩ = some (.int .i64 (xs j))
  ticks : wr.cell? ⟨N + 1, 25, none⟩ = some (.int .u64 T)
  times : ∀ j, j < 8 → wr.cell? ⟨N + 1, 26 + j, none⟩ = some (.int .i64 (if j < k then xs j else 0))
  fz : ∀ j, j < 8 → wr.frozen? ⟨N + 1, 26 + j, none⟩ = false
  bel : Below N w wr

theorem far {w : World} {b b' o o' : Nat} {v : Value} (h : b ≠ b' ∨ o ≠ o') : (w.setCell ⟨b, o, none⟩ v).cell? ⟨b', o', none⟩ = w.cell? ⟨b', o', none⟩ :=
  World.cell?_setCell_other _ _ _ _ (by intro e; injection e; omega)

theorem tab_step {N : Nat} {w wr : World} {xs : Nat → Int} {T : Int} {k : Nat} (h : Tab N w wr xs T k) (hk : k < 8) :
    Tab N w (wr.setCell ⟨N + 1, 26 + k, none⟩ (.int .i64 (xs k))).drew xs T (k + 1) := by
  obtain ⟨h1, h2, h3, h4, h5⟩ := h
  refine ⟨fun j hj => ?_, ?_, fun j hj => ?_, fun i hi => by simpa using h4 i hi, (h5.setCell (Nat.le_succ _) _).drew⟩
  · rw [World.cell?_drew, far (by omega)]; exact h1 j hj
  · rw [World.cell?_drew, far (by omega)]; exact h2
  · rw [World.cell?_drew]
    by_cases e : j = k
    · subst e
      rw [if_pos (by omega)]
      exact World.cell?_setCell_same _ _ _ (h3 j hj)
    · rw [far (by omega), h3 j hj]
      by_cases c : j < k
      · rw [if_pos c, if_pos (by omega)]
      · rw [if_neg c, if_neg (by omega)]

theorem tab_drewN {N : Nat} {w wr : World} {xs : Nat → Int} {T : Int} {k : Nat} (h : Tab N w wr xs T k) (n : Nat) : Tab N w (wr.drewN n) xs T k :=
  ⟨h.arr, h.ticks, h.times, h.fz, below_drewN h.bel n⟩

theorem law_lt (a1 a2 : Int) (hc : IntKind.u64.wrap (IntKind.u64.wrap (a1 - a2) - 1) < 8) : (fst a2 a1 % 8).toNat = (IntKind.u64.wrap (a2 + 1) % 8).toNat := by
  unfold fst
  rw [if_neg]
  rw [wrapu, wrapu] at *
  omega

theorem law_ge (a1 a2 : Int) (hc : ¬ IntKind.u64.wrap (IntKind.u64.wrap (a1 - a2) - 1) < 8) : (fst a2 a1 % 8).toNat = (IntKind.u64.wrap (a1 + 1) % 8).toNat := by
  unfold fst
  rw [if_pos]
  · simp only [wrapu]
    omega
  · rw [wrapu, wrapu] at *
    omega

theorem walk (x0 x1 x2 x3 x4 x5 x6 x7 : Int) (a1 a2 a3 : Int) (w : World) :
    Calls Yba.prog 4 #[.agg #[.int .i64 x0, .int .i64 x1, .int .i64 x2, .int .i64 x3, .int .i64 x4, .int .i64 x5, .int .i64 x6, .int .i64 x7], .int .u64 a1, .int .u64 a2, .int .i64 a3] w fun e w' => e = .returned (.bool true) ∧ Below w.heap.size w w' := by
  obtain ⟨xs, hxs⟩ : ∃ xs : Nat → Int, xs = fun j => [x0, x1, x2, x3, x4, x5, x6, x7].getD j 0 := ⟨_, rfl⟩
  have HX : Hid (xs = fun j => [x0, x1, x2, x3, x4, x5, x6, x7].getD j 0) := hxs
  clear hxs
  go_enter Yba.func4, Yba.ntmps4
  go_wp2
  go_loopw [10] (fun i wr => ∃ k : Nat, k ≤ 8 ∧ i = .int .i64 k ∧ Tab w.heap.size w wr xs a1 k) (fun i _ => 8 - (intOf i).toNat)
  case atStart =>
    refine ⟨0, Nat.zero_le _, rfl, ⟨fun j hj => ?_, by simp [go_sem], fun j hj => ?_, fun j hj => by simp [go_sem], ((Below.refl _ _).alloc (Nat.le_refl _) _).alloc (by simp) _⟩⟩
    · rw [HX.out]
      simp [go_sem]
      match j, hj with
      | 0, _ => rfl
      | 1, _ => rfl
      | 2, _ => rfl
      | 3, _ => rfl
      | 4, _ => rfl
      | 5, _ => rfl
      | 6, _ => rfl
      | 7, _ => rfl
    · simp [go_sem]
      match j, hj with
      | 0, _ => rfl
      | 1, _ => rfl
      | 2, _ => rfl
      | 3, _ => rfl
      | 4, _ => rfl
      | 5, _ => rfl
      | 6, _ => rfl
      | 7, _ => rfl
  case round =>
    obtain ⟨k, hk, rfl, hT⟩ := hrel
    by_cases hlt : k < 8
    · have g1 := hT.arr k hlt
      have g2 := hT.times k hlt
      rw [if_neg (by omega)] at g2
      have g3 := hT.fz k hlt
      go_wp2
      go_region
      all_goals go_wp2
      all_goals go_roundw
      case rel => exact ⟨k + 1, by omega, by go_num, tab_step hT hlt⟩
      case measure => simp [intOf]; omega
    · have hkl : k = 8 := by omega
      subst hkl
      have h8 : (fst a2 a1 % 8).toNat < 8 := by omega
      have hv := hT.times _ h8
      rw [if_pos h8] at hv
      have g25 := hT.ticks
      go_wp2_with fail
      refine (waited_calls (w.heap.size + 1) _ a3 a1 _ wr g25 hv).mono ?_
      rintro e w' ⟨rfl, nq, rfl⟩
      have hT2 := tab_drewN hT nq
      generalize wr.drewN nq = w2 at *
      clear hT g25 hv
      have g25 := hT2.ticks
      by_cases hc : IntKind.u64.wrap (IntKind.u64.wrap (a1 - a2) - 1) < 8
      · rw [law_lt a1 a2 hc] at *
        have hf := wrapu_nn (a2 + 1)
        have hv := hT2.arr _ h8
        go_wp2
        go_loopw [13] (fun i wr => ∃ k : Nat, k ≤ 8 ∧ i = .int .i64 k ∧ Tab w.heap.size w wr xs a1 8) (fun i _ => 8 - (intOf i).toNat)
        case atStart => exact ⟨0, Nat.zero_le _, rfl, hT2⟩
        case round =>
          obtain ⟨m, hm, rfl, hT3⟩ := hrel
          clear g25 hv hT2
          by_cases hlt2 : m < 8
          · have g1 := hT3.arr m hlt2
            have g2 := hT3.times m hlt2
            rw [if_pos hlt2] at g2
            go_wp2
            go_quiet (fail)
            go_wp2
            go_roundw
            case rel => exact ⟨m + 1, by omega, by go_num, tab_drewN hT3 _⟩
            case measure => simp [intOf]; omega
          · have hkl2 : m = 8 := by omega
            subst hkl2
            go_wp2
            go_ret
            exact ⟨rfl, hT3.bel⟩
      · rw [law_ge a1 a2 hc] at *
        have hf := wrapu_nn (a1 + 1)
        have hv := hT2.arr _ h8
        go_wp2
        go_loopw [13] (fun i wr => ∃ k : Nat, k ≤ 8 ∧ i = .int .i64 k ∧ Tab w.heap.size w wr xs a1 8) (fun i _ => 8 - (intOf i).toNat)
        case atStart => exact ⟨0, Nat.zero_le _, rfl, hT2⟩
        case round =>
          obtain ⟨m, hm, rfl, hT3⟩ := hrel
          clear g25 hv hT2
          by_cases hlt2 : m < 8
          · have g1 := hT3.arr m hlt2
            have g2 := hT3.times m hlt2
            rw [if_pos hlt2] at g2
            go_wp2
            go_quiet (fail)
            go_wp2
            go_roundw
            case rel => exact ⟨m + 1, by omega, by go_num, tab_drewN hT3 _⟩
            case measure => simp [intOf]; omega
          · have hkl2 : m = 8 := by omega
            subst hkl2
            go_wp2
            go_ret
            exact ⟨rfl, hT3.bel⟩
theorem own : ownKnob Yba.prog.godebug = none := by kernel_rfl
theorem laidOut : laidOutB Yba.prog = true := by kernel_rfl
theorem cells62 : Yba.prog.cellsOf 62 = 8 := by kernel_rfl
theorem cells2 : Yba.prog.cellsOf 2 = 1 := by kernel_rfl

theorem array8 {cs : Array Value} (h : cs.size = 8) : ∃ c0 c1 c2 c3 c4 c5 c6 c7, cs = #[c0, c1, c2, c3, c4, c5, c6, c7] := by
  obtain ⟨l⟩ := cs
  match l, h with
  | [c0, c1, c2, c3, c4, c5, c6, c7], _ => exact ⟨c0, c1, c2, c3, c4, c5, c6, c7, rfl⟩

theorem one_int {H : Type} {enc : TypeId × Value → H} {w : World} {m : Nat} {c : Value} {y : Option (DataW H × List MemPlace)} {base : Nat} {spare : Nat → Bool} {held : Bool}
    (hy : y.isSome = true) (h : DataW.trod enc Yba.prog w base spare held m 2 [c] = y) : ∃ x, c = .int .i64 x := by
  obtain ⟨z, hz⟩ := Option.isSome_iff_exists.1 hy
  rw [hz] at h
  obtain ⟨a, e0, _, _⟩ := DataW.trod_int Yba.underlying2 h
  simp at e0
  exact ⟨a, e0⟩

theorem open_eight {H : Type} {enc : TypeId × Value → H} {w : World} {r : Reach} {b0 base : Nat} {spare : Nat → Bool} {held : Bool} {v : Value} {d : DataW H} {p : List MemPlace}
    (hv : Value.okWide Yba.prog w r b0 62 v) (h : DataW.Trod enc Yba.prog w base spare held 62 v d p) :
    ∃ x0 x1 x2 x3 x4 x5 x6 x7, v = .agg #[.int .i64 x0, .int .i64 x1, .int .i64 x2, .int .i64 x3, .int .i64 x4, .int .i64 x5, .int .i64 x6, .int .i64 x7] := by
  simp only [Value.okWide, Yba.underlying62] at hv
  obtain ⟨cs, rfl, hsz, _⟩ := hv
  obtain ⟨c0, c1, c2, c3, c4, c5, c6, c7, rfl⟩ := array8 (hsz.trans cells62)
  obtain ⟨fuel, hf⟩ := h
  obtain ⟨xs, m, _, _, _, hl, hh⟩ := DataW.trod_array Yba.underlying62 hf
  have g : ∀ i, i < 8 → (xs[i]?).isSome = true := fun i hi => by simp; omega
  obtain ⟨x0, rfl⟩ := one_int (c := c0) (g 0 (by omega)) (by simpa [cells2, Value.cells] using hh 0 (by omega))
  obtain ⟨x1, rfl⟩ := one_int (c := c1) (g 1 (by omega)) (by simpa [cells2, Value.cells] using hh 1 (by omega))
  obtain ⟨x2, rfl⟩ := one_int (c := c2) (g 2 (by omega)) (by simpa [cells2, Value.cells] using hh 2 (by omega))
  obtain ⟨x3, rfl⟩ := one_int (c := c3) (g 3 (by omega)) (by simpa [cells2, Value.cells] using hh 3 (by omega))
  obtain ⟨x4, rfl⟩ := one_int (c := c4) (g 4 (by omega)) (by simpa [cells2, Value.cells] using hh 4 (by omega))
  obtain ⟨x5, rfl⟩ := one_int (c := c5) (g 5 (by omega)) (by simpa [cells2, Value.cells] using hh 5 (by omega))
  obtain ⟨x6, rfl⟩ := one_int (c := c6) (g 6 (by omega)) (by simpa [cells2, Value.cells] using hh 6 (by omega))
  obtain ⟨x7, rfl⟩ := one_int (c := c7) (g 7 (by omega)) (by simpa [cells2, Value.cells] using hh 7 (by omega))
  exact ⟨x0, x1, x2, x3, x4, x5, x6, x7, rfl⟩

/-! ### THE ROW's STEP: WRITTEN OUT: LEAVE IT -/
set_option maxRecDepth 100000 in
theorem lifted (os : Os) (started : os.Started) (H : Type) (enc : TypeId × Value → H) :
    ReturnsInHanded {} Yba.checked os 4 .any (Rows.lawS2532ATableSpec.pre6 enc Yba.prog Yba.f4 Rows.lawS2532ATableRow.domain false) (Rows.lawS2532ATableSpec.post enc Yba.prog Yba.f4 false true false false) := by
  refine returnsInHanded_of_change (C := Yba.checked) own started (by kernel_rfl) Yba.func4
    (ChangeSpec.witness6 (enc := enc) (C := Yba.checked) false ⟨#[], #[.agg #[.int .i64 0, .int .i64 0, .int .i64 0, .int .i64 0, .int .i64 0, .int .i64 0, .int .i64 0, .int .i64 0], .int .u64 0, .int .u64 0, .int .i64 0], []⟩ 8 (by kernel_rfl) (by kernel_rfl) (by kernel_rfl) (by kernel_rfl)) ?_
  intro W base args ds gs before hval0 hW hcnd _
  have hval : ∀ (j : Nat) t v, Yba.f4.params[j]? = some t → args[j]? = some v → Value.okWide Yba.prog W .any base t v := hval0
  have hW' := hW
  obtain ⟨p, q, hA0, hV, rfl, hfz, hnd⟩ := hW
  have hA : DataW.TrodAll enc Yba.prog W 0 (fun _ => true) true Yba.f4.params.toList args.toList ds p := hA0
  rw [Yba.params4] at hA hval
  obtain ⟨v0, vs0, d0, ds0, p0, q0, hargs, rfl, rfl, h0, r0⟩ := trodAll_cons hA
  obtain ⟨v1, vs1, d1, ds1, p1, q1, rfl, rfl, rfl, h1, r1⟩ := trodAll_cons r0
  obtain ⟨v2, vs2, d2, ds2, p2, q2, rfl, rfl, rfl, h2, r2⟩ := trodAll_cons r1
  obtain ⟨v3, vs3, d3, ds3, p3, q3, rfl, rfl, rfl, h3, r3⟩ := trodAll_cons r2
  obtain ⟨rfl, rfl, rfl⟩ := trodAll_nil r3
  obtain rfl : args = #[v0, v1, v2, v3] := by cases args; simp_all
  obtain ⟨rfl, rfl⟩ := trodVars_none hV
  have k0 := h0
  have lt0 : ∀ x ∈ p0, x.block < W.heap.size := by obtain ⟨m, hm⟩ := k0; exact DataW.trod_lt m _ _ _ hm
  obtain ⟨x0, x1, x2, x3, x4, x5, x6, x7, rfl⟩ := open_eight (hval 0 62 v0 rfl rfl) h0
  obtain ⟨a1, rfl, rfl, rfl, w1⟩ := open_int Yba.underlying23 (hval 1 23 v1 rfl rfl) h1
  obtain ⟨a2, rfl, rfl, rfl, w2⟩ := open_int Yba.underlying23 (hval 2 23 v2 rfl rfl) h2
  obtain ⟨a3, rfl, rfl, rfl, w3⟩ := open_int Yba.underlying2 (hval 3 2 v3 rfl rfl) h3
  clear hA0 hval0
  refine (walk x0 x1 x2 x3 x4 x5 x6 x7 a1 a2 a3 W).mono fun e W' ⟨he, bel⟩ => ?_
  subst he
  exact ⟨_, rfl, _, _, _, [], _, [], hW', trodAll_mk1 (shut_bool Yba.underlying4 _), (trodAll_cons_mk (Below.trod laidOut (by kernel_rfl) (of_decide_eq_true (by kernel_rfl)) k0 bel lt0) (trodAll_cons_mk (shut_int Yba.underlying23 w1) (trodAll_cons_mk (shut_int Yba.underlying23 w2) (trodAll_cons_mk (shut_int Yba.underlying2 w3) trodAll_mk0)))), rfl, bel.frame _, fun h => by cases h⟩

theorem over : Rows.lawS2532ATableRow.holds Yba.pinned (OpenSpec.ofChange Rows.lawS2532ATableSpec) :=
  OpenClaim.holds_of_wide 4 Yba.f4 rfl rfl rfl rfl rfl rfl rfl ⟨rfl, rfl, rfl, rfl, rfl⟩ rfl rfl rfl rfl rfl (by kernel_rfl) Yba.func4 (by kernel_rfl)
    (of_decide_eq_true (by kernel_rfl)) (by unfold Func.isWrapper; first | (rw [if_pos (by decide +kernel)]; kernel_rfl) | (rw [if_neg (by decide +kernel)]; exact ⟨rfl, rfl⟩))
    (fun os started H enc _ => lifted os started H enc)

/-- ████ THE STATEMENT ████ -/
theorem proved : Rows.LawS2532ATableSaid := over
#print axioms proved
end Go.Proofs.Ybulkazkk.lawS2532ATable
