import Derived.Test.YbulkazkyRows
import Derived.Test.YbulkazkySwaps
import Derived.Test.YbulkazkyArgs
import Derived.WalkKit
import Derived.ProofKit
import Derived.OpenShut
import Derived.ShutString
import Derived.ChangeOld
import Derived.Below
import Derived.WalkSmall
import Derived.WalkLawsBesides
import Derived.WalkSpells
import Derived.Deep.RegionHeld3
import Derived.Deep.Cut
namespace Go.Proofs.Ybulkazky.lawS2533CTakesFirst
open Go.ChangeShapes Go.WideShapes Go.ChangeAt Go.RowKit
open Go.Proofs.Ybulkazky.Swaps
set_option linter.unusedVariables false

/-- A cell that was there is there behind whatever only lays new blocks. -/
theorem later {W w' : World} (hB : Below W.heap.size W w') {a : Addr} {v : Value} (h : W.cell? a = some v) : w'.cell? a = some v := (hB.cell (lt_of_cell h)).trans h

theorem held_later {W w' : World} (hB : Below W.heap.size W w') {a0 : Addr} {v0 : Value} {a1 : Addr} {v1 : Value} {a2 : Addr} {v2 : Value} {a3 : Addr} {v3 : Value} {a4 : Addr} {v4 : Value} {a5 : Addr} {v5 : Value} {a6 : Addr} {v6 : Value} {a7 : Addr} {v7 : Value} {a8 : Addr} {v8 : Value} {a9 : Addr} {v9 : Value} {a10 : Addr} {v10 : Value}
    (h : W.cell? a0 = some v0 ∧ W.cell? a1 = some v1 ∧ W.cell? a2 = some v2 ∧ W.cell? a3 = some v3 ∧ W.cell? a4 = some v4 ∧ W.cell? a5 = some v5 ∧ W.cell? a6 = some v6 ∧ W.cell? a7 = some v7 ∧ W.cell? a8 = some v8 ∧ W.cell? a9 = some v9 ∧ W.cell? a10 = some v10) :
    w'.cell? a0 = some v0 ∧ w'.cell? a1 = some v1 ∧ w'.cell? a2 = some v2 ∧ w'.cell? a3 = some v3 ∧ w'.cell? a4 = some v4 ∧ w'.cell? a5 = some v5 ∧ w'.cell? a6 = some v6 ∧ w'.cell? a7 = some v7 ∧ w'.cell? a8 = some v8 ∧ w'.cell? a9 = some v9 ∧ w'.cell? a10 = some v10 := by
  obtain ⟨h0, h1, h2, h3, h4, h5, h6, h7, h8, h9, h10⟩ := h
  exact ⟨later hB h0, later hB h1, later hB h2, later hB h3, later hB h4, later hB h5, later hB h6, later hB h7, later hB h8, later hB h9, later hB h10⟩

theorem taken {w w3 : World} {kb b o n : Nat} {D : Nat → Sw} (hK : Keep w kb b o n 1 D w3) (hn : n ≤ 1024) (aw : Option Addr) (hs : w3.cell? ⟨kb, 11, none⟩ = some (.slice aw (n - 1) (n - 1))) (ai : Option Addr) (hai : 1 < n → ai = some ⟨b, o + 5, none⟩) (cb : Nat) (hcb : n - 1 ≤ cb) (x y : Obj) :
    Calls Yba.prog 11 #[.slice aw (n - 1) (n - 1), .slice ai (n - 1) cb] ((w3.alloc x).alloc y).drew fun e w' => e = .returned (.bool true) ∧ Below w.heap.size w w' ∧ Below ((w3.alloc x).alloc y).drew.heap.size ((w3.alloc x).alloc y).drew w' := by
  have hW := (((hK.alloc x).alloc y).drewN 1)
  have hs2 : ((w3.alloc x).alloc y).drew.cell? ⟨kb, 11, none⟩ = some (.slice aw (n - 1) (n - 1)) := by
    have := hK.lt
    rw [World.cell?_drew, World.cell?_alloc_past _ _ _ (by simp; omega), World.cell?_alloc_past _ _ _ (by omega)]; exact hs
  exact (left_calls hW hn aw ai hs2 hai hcb).mono fun e w' ⟨he, hB⟩ => ⟨he, hW.bel.trans (hB.mono hW.bel.size), hB⟩

set_option maxRecDepth 100000 in
theorem walk_empty (a : Option Addr) (cap : Nat) (D : Nat → Sw) (off : Int) (w : World) (h : Arg w a 0 cap D) :
    Calls Yba.prog 5 #[.slice a 0 cap, .int .i64 off] w fun e w' => e = .returned (.bool true) ∧ Below w.heap.size w w' := by
  go_enter Yba.func5, Yba.ntmps5
  go_wp2_with fail
  refine (build_calls _ 0 cap D w h (by omega)).mono ?_
  rintro e w1 ⟨a', rfl, hG⟩
  go_wp2_with fail
  have hK := keep_made (b := 0) (o := 0) hG (fun h => absurd h (by omega)) (fun h => absurd h (by omega)) #[.pointer none, .slice none 0 0, .pointer none, .map none, .int .i64 0, .int .i64 0, .pointer none, .int .i64 0, .int .i64 0, .int .i64 0, .int .i64 0, .slice a' 0 0, .slice none 0 0, .map none] rfl
  refine (zero_calls hK (by omega) off (fun h => absurd h (by omega))).mono ?_
  rintro e w2 ⟨rfl, hK2⟩
  clear hK hG
  generalize w1.heap.size = kb at *
  obtain ⟨aw, hs, hai⟩ := hK2.swaps
  clear hai
  rw [show (0 : Nat) - 0 = 0 from rfl] at hs
  have hl := hK2.lt
  go_wp2_with fail
  refine (matches_none aw a 0 cap _).mono ?_
  rintro e w3 ⟨rfl, hB⟩
  go_wp2
  go_ret
  exact ⟨rfl, (hK2.bel.alloc hK2.bel.size _).trans (hB.mono (by have := hK2.bel.size; simp; omega))⟩

set_option maxRecDepth 100000 in
theorem walk_late (b o n cap : Nat) (D : Nat → Sw) (off : Int) (w : World) (h : Arg w (some ⟨b, o, none⟩) n cap D) (hn : n ≤ 1024) (hp : 0 < n) (hbw : b < w.heap.size) (hr : Row w b o n D) (hf : ¬ (D 0).f < off) :
    Calls Yba.prog 5 #[.slice (some ⟨b, o, none⟩) n cap, .int .i64 off] w fun e w' => e = .returned (.bool true) ∧ Below w.heap.size w w' := by
  have hb1 : ¬ (1024 : Int) < n := by omega
  have hb0 : ((n : Int) == 0) = false := by simp; omega
  have hcap := h.le
  go_enter Yba.func5, Yba.ntmps5
  go_wp2_with fail
  refine (build_calls _ n cap D w h hn).mono ?_
  rintro e w1 ⟨a', rfl, hG⟩
  go_wp2_with fail
  have hK := keep_made (b := b) (o := o) hG (fun _ => hbw) (fun _ => hr) #[.pointer none, .slice none 0 0, .pointer none, .map none, .int .i64 0, .int .i64 0, .pointer none, .int .i64 0, .int .i64 0, .int .i64 0, .int .i64 0, .slice a' n n, .slice none 0 0, .map none] rfl
  refine (zero_calls hK hn off (fun _ => by omega)).mono ?_
  rintro e w2 ⟨rfl, hK2⟩
  clear hK hG
  generalize w1.heap.size = kb at *
  obtain ⟨aw, hs, hai⟩ := hK2.swaps
  clear hai
  have hs2 : w2.cell? ⟨kb, 11, none⟩ = some (.slice aw n n) := hs
  have hfb : decide ((D 0).f < off) = false := by simp; omega
  have hl := hK2.lt
  have hbl : b < w2.heap.size := Nat.lt_of_lt_of_le hbw hK2.bel.size
  have g0 : w2.cell? ⟨b, o, none⟩ = some (.int .i64 (D 0).f) := (hK2.inn hp).f 0 hp
  have hK3 := hK2.alloc (.cells #[.int .i64 0, .int .i64 0, .string ⟨#[]⟩, .bool false, .int .i64 0] 43)
  have hs3 : (w2.alloc (.cells #[.int .i64 0, .int .i64 0, .string ⟨#[]⟩, .bool false, .int .i64 0] 43)).cell? ⟨kb, 11, none⟩ = some (.slice aw (n - 0) (n - 0)) := by rw [World.cell?_alloc_past _ _ _ hl]; exact hs
  have HC : Hid (Calls Yba.prog 11 #[.slice aw n n, .slice (some ⟨b, o, none⟩) n cap] (w2.alloc (.cells #[.int .i64 0, .int .i64 0, .string ⟨#[]⟩, .bool false, .int .i64 0] 43)) fun e w' => e = .returned (.bool true) ∧ Below (w2.alloc (.cells #[.int .i64 0, .int .i64 0, .string ⟨#[]⟩, .bool false, .int .i64 0] 43)).heap.size (w2.alloc (.cells #[.int .i64 0, .int .i64 0, .string ⟨#[]⟩, .bool false, .int .i64 0] 43)) w') :=
    left_calls (cb := cap) hK3 hn aw (some ⟨b, o, none⟩) hs3 (fun _ => by rw [Nat.zero_mul, Nat.add_zero]) (by omega)
  clear hs hK3 hs3
  go_wp2_with fail
  refine HC.out.mono ?_
  rintro e w3 ⟨rfl, hB⟩
  go_wp2
  go_ret
  exact ⟨rfl, (hK2.bel.alloc hK2.bel.size _).trans (hB.mono (by have := hK2.bel.size; simp; omega))⟩

set_option maxHeartbeats 1000000 in
set_option maxRecDepth 100000 in
theorem walk_taken (b o n cap : Nat) (D : Nat → Sw) (off : Int) (w : World) (h : Arg w (some ⟨b, o, none⟩) n cap D) (hn : n ≤ 1024) (hp : 0 < n) (hbw : b < w.heap.size) (hr : Row w b o n D) (hf : (D 0).f < off) :
    Calls Yba.prog 5 #[.slice (some ⟨b, o, none⟩) n cap, .int .i64 off] w fun e w' => e = .returned (.bool true) ∧ Below w.heap.size w w' := by
  have hb1 : ¬ (1024 : Int) < n := by omega
  have hb0 : ((n : Int) == 0) = false := by simp; omega
  have hcap := h.le
  go_enter Yba.func5, Yba.ntmps5
  go_wp2_with fail
  refine (build_calls _ n cap D w h hn).mono ?_
  rintro e w1 ⟨a', rfl, hG⟩
  go_wp2_with fail
  have hK := keep_made (b := b) (o := o) hG (fun _ => hbw) (fun _ => hr) #[.pointer none, .slice none 0 0, .pointer none, .map none, .int .i64 0, .int .i64 0, .pointer none, .int .i64 0, .int .i64 0, .int .i64 0, .int .i64 0, .slice a' n n, .slice none 0 0, .map none] rfl
  refine (take_calls hK hp hn off hf).mono ?_
  rintro e w2 ⟨rfl, hK2⟩
  clear hK hG
  generalize w1.heap.size = kb at *
  go_upto_region 5 with fail
  have hK3 := hK2.alloc (.cells #[.int .i64 (D 0).f, .int .i64 (D 0).t, .string (D 0).s, .bool (D 0).l, .int .i64 (D 0).c] 43)
  have s0 : (w2.alloc (.cells #[.int .i64 (D 0).f, .int .i64 (D 0).t, .string (D 0).s, .bool (D 0).l, .int .i64 (D 0).c] 43)).cell? ⟨w2.heap.size, 0, none⟩ = some (.int .i64 (D 0).f) := by rw [World.cell?_alloc_at _ _ _ _ rfl]; rfl
  have s1 : (w2.alloc (.cells #[.int .i64 (D 0).f, .int .i64 (D 0).t, .string (D 0).s, .bool (D 0).l, .int .i64 (D 0).c] 43)).cell? ⟨w2.heap.size, 1, none⟩ = some (.int .i64 (D 0).t) := by rw [World.cell?_alloc_at _ _ _ _ rfl]; rfl
  have s2 : (w2.alloc (.cells #[.int .i64 (D 0).f, .int .i64 (D 0).t, .string (D 0).s, .bool (D 0).l, .int .i64 (D 0).c] 43)).cell? ⟨w2.heap.size, 2, none⟩ = some (.string (D 0).s) := by rw [World.cell?_alloc_at _ _ _ _ rfl]; rfl
  have s3 : (w2.alloc (.cells #[.int .i64 (D 0).f, .int .i64 (D 0).t, .string (D 0).s, .bool (D 0).l, .int .i64 (D 0).c] 43)).cell? ⟨w2.heap.size, 3, none⟩ = some (.bool (D 0).l) := by rw [World.cell?_alloc_at _ _ _ _ rfl]; rfl
  have s4 : (w2.alloc (.cells #[.int .i64 (D 0).f, .int .i64 (D 0).t, .string (D 0).s, .bool (D 0).l, .int .i64 (D 0).c] 43)).cell? ⟨w2.heap.size, 4, none⟩ = some (.int .i64 (D 0).c) := by rw [World.cell?_alloc_at _ _ _ _ rfl]; rfl
  clear hK2
  generalize w2.alloc (.cells #[.int .i64 (D 0).f, .int .i64 (D 0).t, .string (D 0).s, .bool (D 0).l, .int .i64 (D 0).c] 43) = w3 at *
  generalize w2.heap.size = sb at *
  obtain ⟨aw, hs, hai⟩ := hK3.swaps
  clear hai
  have g0 : w3.cell? ⟨b, o, none⟩ = some (.int .i64 (D 0).f) := (hK3.inn hp).f 0 hp
  have g1 : w3.cell? ⟨b, o + 1, none⟩ = some (.int .i64 (D 0).t) := (hK3.inn hp).t 0 hp
  have g2 : w3.cell? ⟨b, o + 2, none⟩ = some (.string (D 0).s) := (hK3.inn hp).s 0 hp
  have g3 : w3.cell? ⟨b, o + 3, none⟩ = some (.bool (D 0).l) := (hK3.inn hp).l 0 hp
  have g4 : w3.cell? ⟨b, o + 4, none⟩ = some (.int .i64 (D 0).c) := (hK3.inn hp).c 0 hp
  have i0 : (1 : Int) ≤ (n : Int) := by omega
  have i1 : (n : Int) ≤ (cap : Int) := by omega
  have i2 : (0 : Int) < (n : Int) := by omega
  generalize (D 0).f = f at *
  generalize (D 0).t = t at *
  generalize (D 0).s = s at *
  generalize (D 0).l = l at *
  generalize (D 0).c = c at *
  by_cases hc1 : cap = 1
  · have hn1 : n = 1 := by omega
    subst hc1
    subst hn1
    have hs0 : w3.cell? ⟨kb, 11, none⟩ = some (.slice aw 0 0) := hs
    have HT := taken hK3 hn aw hs (some ⟨b, o, none⟩) (fun h => absurd h (by omega)) 0 (by omega)
    clear hs
    have HC : Hid (Calls Yba.prog 11 #[.slice aw 0 0, .slice (some ⟨b, o, none⟩) 0 0] ((w3.alloc (.cells #[.int .i64 f, .int .i64 t, .string s, .bool l, .int .i64 c] 46)).alloc (.cells #[.int .i64 f, .int .i64 t, .string s, .bool l, .int .i64 c] 43)).drew fun e w' => e = .returned (.bool true) ∧ Below w.heap.size w w' ∧ Below ((w3.alloc (.cells #[.int .i64 f, .int .i64 t, .string s, .bool l, .int .i64 c] 46)).alloc (.cells #[.int .i64 f, .int .i64 t, .string s, .bool l, .int .i64 c] 43)).drew.heap.size ((w3.alloc (.cells #[.int .i64 f, .int .i64 t, .string s, .bool l, .int .i64 c] 46)).alloc (.cells #[.int .i64 f, .int .i64 t, .string s, .bool l, .int .i64 c] 43)).drew w') :=
      HT _ _
    clear HT
    go_wp2
    go_region_held3 (fun w' => w'.cell? ⟨sb, 0, none⟩ = some (.int .i64 f) ∧ w'.cell? ⟨sb, 1, none⟩ = some (.int .i64 t) ∧ w'.cell? ⟨sb, 2, none⟩ = some (.string s) ∧ w'.cell? ⟨sb, 3, none⟩ = some (.bool l) ∧ w'.cell? ⟨sb, 4, none⟩ = some (.int .i64 c) ∧ w'.cell? ⟨b, o, none⟩ = some (.int .i64 f) ∧ w'.cell? ⟨b, o + 1, none⟩ = some (.int .i64 t) ∧ w'.cell? ⟨b, o + 2, none⟩ = some (.string s) ∧ w'.cell? ⟨b, o + 3, none⟩ = some (.bool l) ∧ w'.cell? ⟨b, o + 4, none⟩ = some (.int .i64 c) ∧ w'.cell? ⟨kb, 11, none⟩ = some (.slice aw 0 0)) (first | go_keep | exact held_later hS (by assumption))
      (first | (go_at_call 12; refine (conv_calls f t s l c _).mono ?_; rintro e w' ⟨rfl, rfl⟩) | (go_at_call 11; refine HC.out.mono ?_; rintro e w' ⟨rfl, hB, hS⟩))
    go_wp2
    go_ret
    exact ⟨rfl, hB⟩
  · have HC : Hid (Calls Yba.prog 11 #[.slice aw (n - 1) (n - 1), .slice (some ⟨b, o + 5, none⟩) (n - 1) (cap - 1)] ((w3.alloc (.cells #[.int .i64 f, .int .i64 t, .string s, .bool l, .int .i64 c] 46)).alloc (.cells #[.int .i64 f, .int .i64 t, .string s, .bool l, .int .i64 c] 43)).drew fun e w' => e = .returned (.bool true) ∧ Below w.heap.size w w' ∧ Below ((w3.alloc (.cells #[.int .i64 f, .int .i64 t, .string s, .bool l, .int .i64 c] 46)).alloc (.cells #[.int .i64 f, .int .i64 t, .string s, .bool l, .int .i64 c] 43)).drew.heap.size ((w3.alloc (.cells #[.int .i64 f, .int .i64 t, .string s, .bool l, .int .i64 c] 46)).alloc (.cells #[.int .i64 f, .int .i64 t, .string s, .bool l, .int .i64 c] 43)).drew w') :=
      taken hK3 hn aw hs _ (fun _ => rfl) _ (by omega) _ _
    go_wp2
    go_region_held3 (fun w' => w'.cell? ⟨sb, 0, none⟩ = some (.int .i64 f) ∧ w'.cell? ⟨sb, 1, none⟩ = some (.int .i64 t) ∧ w'.cell? ⟨sb, 2, none⟩ = some (.string s) ∧ w'.cell? ⟨sb, 3, none⟩ = some (.bool l) ∧ w'.cell? ⟨sb, 4, none⟩ = some (.int .i64 c) ∧ w'.cell? ⟨b, o, none⟩ = some (.int .i64 f) ∧ w'.cell? ⟨b, o + 1, none⟩ = some (.int .i64 t) ∧ w'.cell? ⟨b, o + 2, none⟩ = some (.string s) ∧ w'.cell? ⟨b, o + 3, none⟩ = some (.bool l) ∧ w'.cell? ⟨b, o + 4, none⟩ = some (.int .i64 c) ∧ w'.cell? ⟨kb, 11, none⟩ = some (.slice aw (n - 1) (n - 1))) (first | go_keep | exact held_later hS (by assumption))
      (first | (go_at_call 12; refine (conv_calls f t s l c _).mono ?_; rintro e w' ⟨rfl, rfl⟩) | (go_at_call 11; refine HC.out.mono ?_; rintro e w' ⟨rfl, hB, hS⟩))
    go_wp2
    go_ret
    exact ⟨rfl, hB⟩
theorem own : ownKnob Yba.prog.godebug = none := by kernel_rfl
theorem laidOut : laidOutB Yba.prog = true := by kernel_rfl

theorem walk_all (a : Option Addr) (n cap : Nat) (D : Nat → Sw) (off : Int) (w : World) (h : Arg w a n cap D) :
    Calls Yba.prog 5 #[.slice a n cap, .int .i64 off] w fun e w' => e = .returned (.bool true) ∧ Below w.heap.size w w' := by
  by_cases hn : n ≤ 1024
  · rcases h.row with rfl | ⟨b, o, rfl, hb, hr⟩
    · exact walk_empty a cap D off w h
    · by_cases h0 : n = 0
      · subst h0; exact walk_empty _ cap D off w h
      · by_cases hf : (D 0).f < off
        · exact walk_taken b o n cap D off w h hn (by omega) hb hr hf
        · exact walk_late b o n cap D off w h hn (by omega) hb hr hf
  · have hb1 : (1024 : Int) < n := by omega
    clear h
    go_enter Yba.func5, Yba.ntmps5
    go_wp2
    go_ret
    exact ⟨rfl, Below.refl _ _⟩

/-! ### THE ROW's STEP: WRITTEN OUT: LEAVE IT -/
set_option maxRecDepth 100000 in
theorem lifted (os : Os) (started : os.Started) (H : Type) (enc : TypeId × Value → H) :
    ReturnsInHanded {} Yba.checked os 5 .any (Rows.lawS2533CTakesFirstSpec.pre6 enc Yba.prog Yba.f5 Rows.lawS2533CTakesFirstRow.domain false) (Rows.lawS2533CTakesFirstSpec.post enc Yba.prog Yba.f5 false true false false) := by
  refine returnsInHanded_of_change (C := Yba.checked) own started (by kernel_rfl) Yba.func5
    (ChangeSpec.witness6 (enc := enc) (C := Yba.checked) false ⟨#[], #[.slice none 0 0, .int .i64 0], []⟩ 8 (by kernel_rfl) (by kernel_rfl) (by kernel_rfl) (by kernel_rfl)) ?_
  intro W base args ds gs before hval0 hW hcnd _
  have hval : ∀ (j : Nat) t v, Yba.f5.params[j]? = some t → args[j]? = some v → Value.okWide Yba.prog W .any base t v := hval0
  have hW' := hW
  obtain ⟨p, q, hA0, hV, rfl, hfz, hnd⟩ := hW
  have hA : DataW.TrodAll enc Yba.prog W 0 (fun _ => true) true Yba.f5.params.toList args.toList ds p := hA0
  rw [Yba.params5] at hA hval
  obtain ⟨v0, vs0, d0, ds0, p0, q0, hargs, rfl, rfl, h0, r0⟩ := trodAll_cons hA
  obtain ⟨v1, vs1, d1, ds1, p1, q1, rfl, rfl, rfl, h1, r1⟩ := trodAll_cons r0
  obtain ⟨rfl, rfl, rfl⟩ := trodAll_nil r1
  obtain rfl : args = #[v0, v1] := by cases args; simp_all
  obtain ⟨rfl, rfl⟩ := trodVars_none hV
  obtain ⟨a0, len0, cap0, rfl⟩ := okWide_slice Yba.underlying28 (hval 0 28 v0 rfl rfl)
  have k0 := h0
  have lt0 : ∀ x ∈ p0, x.block < W.heap.size := by obtain ⟨m, hm⟩ := k0; exact DataW.trod_lt m _ _ _ hm
  obtain ⟨D, A0⟩ := arg_of h0
  obtain ⟨a1, rfl, rfl, rfl, w1⟩ := open_int Yba.underlying3 (hval 1 3 v1 rfl rfl) h1
  clear hA0 hval0
  refine (walk_all a0 len0 cap0 D a1 W A0).mono fun e W' ⟨he, bel⟩ => ?_
  subst he
  exact ⟨_, rfl, _, _, _, [], _, [], hW', trodAll_mk1 (shut_bool Yba.underlying4 _), (trodAll_cons_mk (Below.trod laidOut (by kernel_rfl) (of_decide_eq_true (by kernel_rfl)) k0 bel lt0) (trodAll_cons_mk (shut_int Yba.underlying3 w1) trodAll_mk0)), rfl, bel.frame _, fun h => by cases h⟩

theorem over : Rows.lawS2533CTakesFirstRow.holds Yba.pinned (OpenSpec.ofChange Rows.lawS2533CTakesFirstSpec) :=
  OpenClaim.holds_of_wide 5 Yba.f5 rfl rfl rfl rfl rfl rfl rfl ⟨rfl, rfl, rfl, rfl, rfl⟩ rfl rfl rfl rfl rfl (by kernel_rfl) Yba.func5 (by kernel_rfl)
    (of_decide_eq_true (by kernel_rfl)) (by unfold Func.isWrapper; first | (rw [if_pos (by decide +kernel)]; kernel_rfl) | (rw [if_neg (by decide +kernel)]; exact ⟨rfl, rfl⟩))
    (fun os started H enc _ => lifted os started H enc)

/-- ████ THE STATEMENT ████ -/
theorem proved : Rows.LawS2533CTakesFirstSaid := over
#print axioms proved
end Go.Proofs.Ybulkazky.lawS2533CTakesFirst
