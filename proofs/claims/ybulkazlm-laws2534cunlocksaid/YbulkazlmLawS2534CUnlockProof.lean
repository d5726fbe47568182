import Derived.Test.YbulkazlmRows
import Derived.Test.YbulkazlmLock
import Derived.WalkKit
import Derived.ProofKit
import Derived.OpenShut
import Derived.ShutString
import Derived.ChangeOld
import Derived.Below
import Derived.WalkSmall
import Derived.WalkLawsBesides
import Derived.WalkSpells
namespace Go.Proofs.Ybulkazlm.lawS2534CUnlock
open Go.ChangeShapes Go.WideShapes Go.ChangeAt Go.RowKit
open Go.Proofs.Ybulkazlm.Wake
set_option linter.unusedVariables false

theorem len_buf {w : World} {c s r : Nat} {tok : Bool} (hc : w.heap[c]? = some (.chan 1 (buf tok) false s r false)) (ty : TypeId) :
    (Builtin.len_ #[40] ty #[.chan (some c)]).run Yba.prog w = .ok (.int .i64 (if tok then 1 else 0)) w := by
  have := Go.Conc.run_len_chan (P := Yba.prog) 40 ty Yba.underlying40 hc
  cases tok <;> exact this

/-- c.unlock(), the lock held by the caller alone. -/
theorem chan_unlock {w : World} {wt : Int} {cl pm tok : Bool} {wr : World} (h : Ch w wt cl pm tok 1 wr) :
    Calls Yba.prog 10 #[.pointer (some ⟨w.heap.size + 1, 0, none⟩)] wr fun e w' => e = .returned (.tuple #[]) ∧ Ch w wt cl pm (tok || (decide (0 < wt) && (cl || pm))) 0 w' := by
  have H := h
  clear h
  go_enter Yba.func10, Yba.ntmps10
  go_wp2_with fail
  refine (pass_calls H).mono ?_
  rintro e w2 ⟨rfl, h2⟩
  go_wp2_with fail
  refine (unlock_calls (w.heap.size + 1) 122 w2 h2.cmu (h2.zmu 122)).mono ?_
  rintro e w3 ⟨rfl, rfl⟩
  go_wp2
  go_end0
  exact ⟨rfl, h2.lock 0⟩

set_option maxRecDepth 100000 in
theorem walk (wt : Int) (cl pm pre : Bool) (w : World) :
    Calls Yba.prog 4 #[.int .i32 wt, .bool cl, .bool pm, .bool pre] w fun e w' => e = .returned (.bool true) ∧ Below w.heap.size w w' := by
  go_enter Yba.func4, Yba.ntmps4
  go_wp2_with fail
  refine (build_calls wt cl pm pre w).mono ?_
  rintro e w1 ⟨rfl, h1⟩
  go_wp2_with fail
  refine (lock_calls (w.heap.size + 1) 122 w1 h1.cmu (h1.zmu 122)).mono ?_
  rintro e w2 ⟨rfl, hw2⟩
  have h2 : Ch w wt cl pm pre 1 w2 := by rw [hw2]; exact h1.lock 1
  clear h1 hw2
  go_wp2_with fail
  refine (chan_unlock h2).mono ?_
  rintro e w3 ⟨rfl, h3⟩
  clear h2
  go_wp2_with fail
  refine (tryLock_calls (w.heap.size + 1) 122 w3 h3.cmu (h3.zmu 122)).mono ?_
  rintro e w4 ⟨rfl, hw4⟩
  have h4 : Ch w wt cl pm (pre || (decide (0 < wt) && (cl || pm))) 1 w4 := by rw [hw4]; exact h3.lock 1
  clear h3 hw4
  go_wp2_with fail
  refine (unlock_calls (w.heap.size + 1) 122 w4 h4.cmu (h4.zmu 122)).mono ?_
  rintro e w5 ⟨rfl, hw5⟩
  have h5 : Ch w wt cl pm (pre || (decide (0 < wt) && (cl || pm))) 0 w5 := by rw [hw5]; exact h4.lock 0
  clear h4 hw5
  have HW : Hid (Calls Yba.prog 7 #[.int .i32 wt, .bool cl, .bool pm, .bool pre] w5 fun e w' => e = .returned (.bool (pre || (decide (0 < wt) && (cl || pm)))) ∧ w' = w5) := want_calls wt cl pm pre w5
  have HP : Hid (Calls Yba.prog 6 #[.pointer (some ⟨w.heap.size + 1, 0, none⟩)] w5 fun e w' => e = .returned (.tuple #[]) ∧ Ch w wt cl pm (pre || (decide (0 < wt) && (cl || pm))) 0 w') := (pass_calls h5).mono fun e w' ⟨he, hw⟩ => ⟨he, by
    have e2 : ((pre || (decide (0 < wt) && (cl || pm))) || (decide (0 < wt) && (cl || pm))) = (pre || (decide (0 < wt) && (cl || pm))) := by rw [Bool.or_assoc, Bool.or_self]
    rw [e2] at hw; exact hw⟩
  generalize (pre || (decide (0 < wt) && (cl || pm))) = tok at *
  obtain ⟨s, r, hc⟩ := h5.chan
  have hlen := fun ty => len_buf hc ty
  clear hc
  have cw := h5.cwake
  clear h5
  cases tok
  all_goals
    simp only [if_true, if_false, Bool.false_eq_true] at hlen
    go_wp2_with (first | (go_at_call 7; refine HW.out.mono ?_; rintro e w' ⟨rfl, rfl⟩))
    refine HP.out.mono ?_
    rintro e w6 ⟨rfl, h6⟩
    clear HW HP cw hlen
    obtain ⟨s6, r6, hc6⟩ := h6.chan
    have hlen6 := fun ty => len_buf hc6 ty
    simp only [if_true, if_false, Bool.false_eq_true] at hlen6
    have cw6 := h6.cwake
    have ct6 := h6.cwaiting
    have HB : Hid (Below w.heap.size w w6) := h6.bel
    clear hc6 h6
    go_wp2
    go_ret
    exact ⟨by simp, HB.out⟩
theorem own : ownKnob Yba.prog.godebug = none := by kernel_rfl

/-! ### THE ROW's STEP: WRITTEN OUT: LEAVE IT -/
set_option maxRecDepth 100000 in
theorem lifted (os : Os) (started : os.Started) (H : Type) (enc : TypeId × Value → H) :
    ReturnsInHanded {} Yba.checked os 4 .any (Rows.lawS2534CUnlockSpec.pre6 enc Yba.prog Yba.f4 Rows.lawS2534CUnlockRow.domain false) (Rows.lawS2534CUnlockSpec.post enc Yba.prog Yba.f4 false true false false) := by
  refine returnsInHanded_of_change (C := Yba.checked) own started (by kernel_rfl) Yba.func4
    (ChangeSpec.witness6 (enc := enc) (C := Yba.checked) false ⟨#[], #[.int .i32 0, .bool false, .bool false, .bool false], []⟩ 8 (by kernel_rfl) (by kernel_rfl) (by kernel_rfl) (by kernel_rfl)) ?_
  intro W base args ds gs before hval0 hW hcnd _
  have hval : ∀ (j : Nat) t v, Yba.f4.params[j]? = some t → args[j]? = some v → Value.okWide Yba.prog W .any base t v := hval0
  have hW' := hW
  obtain ⟨p, q, hA0, hV, rfl, hfz, hnd⟩ := hW
  have hA : DataW.TrodAll enc Yba.prog W 0 (fun _ => true) true Yba.f4.params.toList args.toList ds p := hA0
  rw [Yba.params4] at hA hval
  obtain ⟨v0, vs0, d0, ds0, p0, q0, hargs, rfl, rfl, h0, r0⟩ := trodAll_cons hA
  obtain ⟨v1, vs1, d1, ds1, p1, q1, rfl, rfl, rfl, h1, r1⟩ := trodAll_cons r0
  obtain ⟨v2, vs2, d2, ds2, p2, q2, rfl, rfl, rfl, h2, r2⟩ := trodAll_cons r1
  obtain ⟨v3, vs3, d3, ds3, p3, q3, rfl, rfl, rfl, h3, r3⟩ := trodAll_cons r2
  obtain ⟨rfl, rfl, rfl⟩ := trodAll_nil r3
  obtain rfl : args = #[v0, v1, v2, v3] := by cases args; simp_all
  obtain ⟨rfl, rfl⟩ := trodVars_none hV
  obtain ⟨a0, rfl, rfl, rfl, w0⟩ := open_int Yba.underlying21 (hval 0 21 v0 rfl rfl) h0
  obtain ⟨a1, rfl, rfl, rfl⟩ := open_bool Yba.underlying4 (hval 1 4 v1 rfl rfl) h1
  obtain ⟨a2, rfl, rfl, rfl⟩ := open_bool Yba.underlying4 (hval 2 4 v2 rfl rfl) h2
  obtain ⟨a3, rfl, rfl, rfl⟩ := open_bool Yba.underlying4 (hval 3 4 v3 rfl rfl) h3
  clear hA0 hval0
  refine (walk a0 a1 a2 a3 W).mono fun e W' ⟨he, bel⟩ => ?_
  subst he
  exact ⟨_, rfl, _, _, _, [], _, [], hW', trodAll_mk1 (shut_bool Yba.underlying4 _), (trodAll_cons_mk (shut_int Yba.underlying21 w0) (trodAll_cons_mk (shut_bool Yba.underlying4 _) (trodAll_cons_mk (shut_bool Yba.underlying4 _) (trodAll_cons_mk (shut_bool Yba.underlying4 _) trodAll_mk0)))), rfl, bel.frame _, fun h => by cases h⟩

theorem over : Rows.lawS2534CUnlockRow.holds Yba.pinned (OpenSpec.ofChange Rows.lawS2534CUnlockSpec) :=
  OpenClaim.holds_of_wide 4 Yba.f4 rfl rfl rfl rfl rfl rfl rfl ⟨rfl, rfl, rfl, rfl, rfl⟩ rfl rfl rfl rfl rfl (by kernel_rfl) Yba.func4 (by kernel_rfl)
    (of_decide_eq_true (by kernel_rfl)) (by unfold Func.isWrapper; first | (rw [if_pos (by decide +kernel)]; kernel_rfl) | (rw [if_neg (by decide +kernel)]; exact ⟨rfl, rfl⟩))
    (fun os started H enc _ => lifted os started H enc)

/-- ████ THE STATEMENT ████ -/
theorem proved : Rows.LawS2534CUnlockSaid :=
  over
#print axioms proved
end Go.Proofs.Ybulkazlm.lawS2534CUnlock
