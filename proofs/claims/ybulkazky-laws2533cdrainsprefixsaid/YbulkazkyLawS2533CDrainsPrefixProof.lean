import Derived.Test.YbulkazkyRows
import Derived.Test.YbulkazkySwaps
import Derived.Test.YbulkazkyArgs
import Derived.WalkKit
import Derived.ProofKit
import Derived.OpenShut
import Derived.ShutString
import Derived.ChangeOld
import Derived.Below
import Derived.WalkSmall
import Derived.WalkLawsBesides
import Derived.WalkSpells
import Derived.Deep.RegionHeld3
import Derived.Deep.Cut
namespace Go.Proofs.Ybulkazky.lawS2533CDrainsPrefix
open Go.ChangeShapes Go.WideShapes Go.ChangeAt Go.RowKit
open Go.Proofs.Ybulkazky.Swaps
set_option linter.unusedVariables false

/-- A cell that was there is there behind whatever only lays new blocks. -/
theorem later {W w' : World} (hB : Below W.heap.size W w') {a : Addr} {v : Value} (h : W.cell? a = some v) : w'.cell? a = some v := (hB.cell (lt_of_cell h)).trans h

theorem all_snoc {D : Nat → Sw} {off : Int} {k : Nat} (h : ∀ j, j < k → (D j).f < off) (hk : (D k).f < off) : ∀ j, j < k + 1 → (D j).f < off := fun j hj => by
  by_cases e : j = k
  · rw [e]; exact hk
  · exact h j (by omega)

set_option maxHeartbeats 1000000 in
set_option maxRecDepth 100000 in
theorem walk_full (b o n cap : Nat) (D : Nat → Sw) (off : Int) (w : World) (h : Arg w (some ⟨b, o, none⟩) n cap D) (hn : n ≤ 1024) (hp : 0 < n) (hbw : b < w.heap.size) (hr : Row w b o n D) :
    Calls Yba.prog 6 #[.slice (some ⟨b, o, none⟩) n cap, .int .i64 off] w fun e w' => e = .returned (.bool true) ∧ Below w.heap.size w w' := by
  have hb1 : ¬ (1024 : Int) < n := by omega
  have hcap := h.le
  go_enter Yba.func6, Yba.ntmps6
  go_wp2
  go_loop [5] (fun i => ∃ k : Nat, k ≤ n ∧ i = .int .i64 k ∧ ∀ j, j < k → (D j).f < off) (fun i => n - (intOf i).toNat)
  case atStart => exact ⟨0, Nat.zero_le _, rfl, fun j hj => absurd hj (by omega)⟩
  case round =>
    obtain ⟨k, hk, rfl, hall⟩ := hrel
    have HA : Hid (∀ j, j < k → (D j).f < off) := hall
    clear hall
    by_cases hc : k < n ∧ (D k).f < off
    · obtain ⟨hlt, hf⟩ := hc
      have g0 := hr.f k hlt
      go_wp2
      go_round
      case rel => exact ⟨k + 1, by omega, by go_num, all_snoc HA.out hf⟩
      case measure => simp [intOf]; omega
    · have HB : Hid (k < n → ¬ (D k).f < off) := fun h1 h2 => hc ⟨h1, h2⟩
      clear hc
      by_cases hlt : k < n
      · have hf : decide ((D k).f < off) = false := by have := HB.out hlt; simp; omega
        have g0 := hr.f k hlt
        go_wp2_with fail
        refine (build_calls _ n cap D w h hn).mono ?_
        rintro e w1 ⟨a', rfl, hG⟩
        have hK := keep_made (b := b) (o := o) hG (fun _ => hbw) (fun _ => hr) #[.pointer none, .slice none 0 0, .pointer none, .map none, .int .i64 0, .int .i64 0, .pointer none, .int .i64 0, .int .i64 0, .int .i64 0, .int .i64 0, .slice a' n n, .slice none 0 0, .map none] rfl
        clear hG
        go_wp2
        generalize w1.heap.size = kb at *
        go_loopw [7] (fun i wr => ∃ i0 : Nat, i0 ≤ n + 1 ∧ i = .int .i64 i0 ∧ Keep w kb b o n (min i0 k) D wr) (fun i _ => n + 1 - (intOf i).toNat)
        case atStart => exact ⟨0, Nat.zero_le _, rfl, by rw [Nat.zero_min]; exact hK⟩
        case round =>
          obtain ⟨i0, hi0, rfl, hKr⟩ := hrel
          clear hK
          by_cases hle : i0 ≤ n
          · by_cases hik : i0 < k
            · rw [Nat.min_eq_left (by omega)] at hKr
              go_wp2_with fail
              refine (take_calls hKr (by omega) hn off (HA.out i0 hik)).mono ?_
              rintro e w2 ⟨rfl, hK2⟩
              go_upto_region 11 with fail
              have hK3 := hK2.alloc (.cells #[.int .i64 (D i0).f, .int .i64 (D i0).t, .string (D i0).s, .bool (D i0).l, .int .i64 (D i0).c] 43)
              have s0 : (w2.alloc (.cells #[.int .i64 (D i0).f, .int .i64 (D i0).t, .string (D i0).s, .bool (D i0).l, .int .i64 (D i0).c] 43)).cell? ⟨w2.heap.size, 0, none⟩ = some (.int .i64 (D i0).f) := by rw [World.cell?_alloc_at _ _ _ _ rfl]; rfl
              have s1 : (w2.alloc (.cells #[.int .i64 (D i0).f, .int .i64 (D i0).t, .string (D i0).s, .bool (D i0).l, .int .i64 (D i0).c] 43)).cell? ⟨w2.heap.size, 1, none⟩ = some (.int .i64 (D i0).t) := by rw [World.cell?_alloc_at _ _ _ _ rfl]; rfl
              have s2 : (w2.alloc (.cells #[.int .i64 (D i0).f, .int .i64 (D i0).t, .string (D i0).s, .bool (D i0).l, .int .i64 (D i0).c] 43)).cell? ⟨w2.heap.size, 2, none⟩ = some (.string (D i0).s) := by rw [World.cell?_alloc_at _ _ _ _ rfl]; rfl
              have s3 : (w2.alloc (.cells #[.int .i64 (D i0).f, .int .i64 (D i0).t, .string (D i0).s, .bool (D i0).l, .int .i64 (D i0).c] 43)).cell? ⟨w2.heap.size, 3, none⟩ = some (.bool (D i0).l) := by rw [World.cell?_alloc_at _ _ _ _ rfl]; rfl
              have s4 : (w2.alloc (.cells #[.int .i64 (D i0).f, .int .i64 (D i0).t, .string (D i0).s, .bool (D i0).l, .int .i64 (D i0).c] 43)).cell? ⟨w2.heap.size, 4, none⟩ = some (.int .i64 (D i0).c) := by rw [World.cell?_alloc_at _ _ _ _ rfl]; rfl
              clear hK2 hKr
              generalize w2.alloc (.cells #[.int .i64 (D i0).f, .int .i64 (D i0).t, .string (D i0).s, .bool (D i0).l, .int .i64 (D i0).c] 43) = w3 at *
              generalize w2.heap.size = sb at *
              have g1 : w3.cell? ⟨b, o + i0 * 5, none⟩ = some (.int .i64 (D i0).f) := (hK3.inn hp).f i0 (by omega)
              have g2 : w3.cell? ⟨b, o + i0 * 5 + 1, none⟩ = some (.int .i64 (D i0).t) := (hK3.inn hp).t i0 (by omega)
              have g3 : w3.cell? ⟨b, o + i0 * 5 + 2, none⟩ = some (.string (D i0).s) := (hK3.inn hp).s i0 (by omega)
              have g4 : w3.cell? ⟨b, o + i0 * 5 + 3, none⟩ = some (.bool (D i0).l) := (hK3.inn hp).l i0 (by omega)
              have g5 : w3.cell? ⟨b, o + i0 * 5 + 4, none⟩ = some (.int .i64 (D i0).c) := (hK3.inn hp).c i0 (by omega)
              have j0 : (0 : Int) ≤ (i0 : Int) := by omega
              have j1 : (i0 : Int) < (n : Int) := by omega
              generalize (D i0).f = f at *
              generalize (D i0).t = t at *
              generalize (D i0).s = s at *
              generalize (D i0).l = l at *
              generalize (D i0).c = c at *
              go_wp2
              go_region_held3 (fun w' => w'.cell? ⟨sb, 0, none⟩ = some (.int .i64 f) ∧ w'.cell? ⟨sb, 1, none⟩ = some (.int .i64 t) ∧ w'.cell? ⟨sb, 2, none⟩ = some (.string s) ∧ w'.cell? ⟨sb, 3, none⟩ = some (.bool l) ∧ w'.cell? ⟨sb, 4, none⟩ = some (.int .i64 c) ∧ w'.cell? ⟨b, o + i0 * 5, none⟩ = some (.int .i64 f) ∧ w'.cell? ⟨b, o + i0 * 5 + 1, none⟩ = some (.int .i64 t) ∧ w'.cell? ⟨b, o + i0 * 5 + 2, none⟩ = some (.string s) ∧ w'.cell? ⟨b, o + i0 * 5 + 3, none⟩ = some (.bool l) ∧ w'.cell? ⟨b, o + i0 * 5 + 4, none⟩ = some (.int .i64 c)) (go_keep)
                (first | (go_at_call 12; refine (conv_calls f t s l c _).mono ?_; rintro e w' ⟨rfl, rfl⟩))
              go_wp2
              go_roundw
              case rel => exact ⟨i0 + 1, by omega, by go_num, by rw [Nat.min_eq_left (by omega)]; exact ((hK3.alloc _).alloc _).drewN 1⟩
              case measure => simp [intOf]; omega
            · rw [Nat.min_eq_right (by omega)] at hKr
              go_wp2_with fail
              refine (zero_calls hKr hn off (fun h => by have := HB.out h; omega)).mono ?_
              rintro e w2 ⟨rfl, hK2⟩
              go_wp2
              go_roundw
              case rel => exact ⟨i0 + 1, by omega, by go_num, by rw [Nat.min_eq_right (by omega)]; exact hK2.alloc _⟩
              case measure => simp [intOf]; omega
          · rw [Nat.min_eq_right (by omega)] at hKr
            obtain ⟨aw, hs, hai⟩ := hKr.swaps
            clear hai
            have j0 : (0 : Int) ≤ (k : Int) := by omega
            have j1 : (k : Int) ≤ (n : Int) := by omega
            have j2 : (n : Int) ≤ (cap : Int) := by omega
            have HC : Hid (Calls Yba.prog 11 #[.slice aw (n - k) (n - k), .slice (if cap = k then some ⟨b, o, none⟩ else some ⟨b, o + k * 5, none⟩) (n - k) (cap - k)] wr.drew fun e w' => e = .returned (.bool true) ∧ Below wr.drew.heap.size wr.drew w') :=
              left_calls (hKr.drewN 1) hn aw _ hs (fun h => if_neg (by omega)) (by omega)
            go_wp2
            go_region_held3 (fun w' => w'.cell? ⟨kb, 11, none⟩ = some (.slice aw (n - k) (n - k))) (first | go_keep | exact later hB (by assumption))
              (first | (go_at_call 11; refine HC.out.mono ?_; rintro e w' ⟨rfl, hB⟩))
            go_wp2
            go_ret
            exact ⟨rfl, hKr.bel.drew.trans (hB.mono hKr.bel.size)⟩
      · go_wp2_with fail
        refine (build_calls _ n cap D w h hn).mono ?_
        rintro e w1 ⟨a', rfl, hG⟩
        have hK := keep_made (b := b) (o := o) hG (fun _ => hbw) (fun _ => hr) #[.pointer none, .slice none 0 0, .pointer none, .map none, .int .i64 0, .int .i64 0, .pointer none, .int .i64 0, .int .i64 0, .int .i64 0, .int .i64 0, .slice a' n n, .slice none 0 0, .map none] rfl
        clear hG
        go_wp2
        generalize w1.heap.size = kb at *
        go_loopw [7] (fun i wr => ∃ i0 : Nat, i0 ≤ n + 1 ∧ i = .int .i64 i0 ∧ Keep w kb b o n (min i0 k) D wr) (fun i _ => n + 1 - (intOf i).toNat)
        case atStart => exact ⟨0, Nat.zero_le _, rfl, by rw [Nat.zero_min]; exact hK⟩
        case round =>
          obtain ⟨i0, hi0, rfl, hKr⟩ := hrel
          clear hK
          by_cases hle : i0 ≤ n
          · by_cases hik : i0 < k
            · rw [Nat.min_eq_left (by omega)] at hKr
              go_wp2_with fail
              refine (take_calls hKr (by omega) hn off (HA.out i0 hik)).mono ?_
              rintro e w2 ⟨rfl, hK2⟩
              go_upto_region 11 with fail
              have hK3 := hK2.alloc (.cells #[.int .i64 (D i0).f, .int .i64 (D i0).t, .string (D i0).s, .bool (D i0).l, .int .i64 (D i0).c] 43)
              have s0 : (w2.alloc (.cells #[.int .i64 (D i0).f, .int .i64 (D i0).t, .string (D i0).s, .bool (D i0).l, .int .i64 (D i0).c] 43)).cell? ⟨w2.heap.size, 0, none⟩ = some (.int .i64 (D i0).f) := by rw [World.cell?_alloc_at _ _ _ _ rfl]; rfl
              have s1 : (w2.alloc (.cells #[.int .i64 (D i0).f, .int .i64 (D i0).t, .string (D i0).s, .bool (D i0).l, .int .i64 (D i0).c] 43)).cell? ⟨w2.heap.size, 1, none⟩ = some (.int .i64 (D i0).t) := by rw [World.cell?_alloc_at _ _ _ _ rfl]; rfl
              have s2 : (w2.alloc (.cells #[.int .i64 (D i0).f, .int .i64 (D i0).t, .string (D i0).s, .bool (D i0).l, .int .i64 (D i0).c] 43)).cell? ⟨w2.heap.size, 2, none⟩ = some (.string (D i0).s) := by rw [World.cell?_alloc_at _ _ _ _ rfl]; rfl
              have s3 : (w2.alloc (.cells #[.int .i64 (D i0).f, .int .i64 (D i0).t, .string (D i0).s, .bool (D i0).l, .int .i64 (D i0).c] 43)).cell? ⟨w2.heap.size, 3, none⟩ = some (.bool (D i0).l) := by rw [World.cell?_alloc_at _ _ _ _ rfl]; rfl
              have s4 : (w2.alloc (.cells #[.int .i64 (D i0).f, .int .i64 (D i0).t, .string (D i0).s, .bool (D i0).l, .int .i64 (D i0).c] 43)).cell? ⟨w2.heap.size, 4, none⟩ = some (.int .i64 (D i0).c) := by rw [World.cell?_alloc_at _ _ _ _ rfl]; rfl
              clear hK2 hKr
              generalize w2.alloc (.cells #[.int .i64 (D i0).f, .int .i64 (D i0).t, .string (D i0).s, .bool (D i0).l, .int .i64 (D i0).c] 43) = w3 at *
              generalize w2.heap.size = sb at *
              have g1 : w3.cell? ⟨b, o + i0 * 5, none⟩ = some (.int .i64 (D i0).f) := (hK3.inn hp).f i0 (by omega)
              have g2 : w3.cell? ⟨b, o + i0 * 5 + 1, none⟩ = some (.int .i64 (D i0).t) := (hK3.inn hp).t i0 (by omega)
              have g3 : w3.cell? ⟨b, o + i0 * 5 + 2, none⟩ = some (.string (D i0).s) := (hK3.inn hp).s i0 (by omega)
              have g4 : w3.cell? ⟨b, o + i0 * 5 + 3, none⟩ = some (.bool (D i0).l) := (hK3.inn hp).l i0 (by omega)
              have g5 : w3.cell? ⟨b, o + i0 * 5 + 4, none⟩ = some (.int .i64 (D i0).c) := (hK3.inn hp).c i0 (by omega)
              have j0 : (0 : Int) ≤ (i0 : Int) := by omega
              have j1 : (i0 : Int) < (n : Int) := by omega
              generalize (D i0).f = f at *
              generalize (D i0).t = t at *
              generalize (D i0).s = s at *
              generalize (D i0).l = l at *
              generalize (D i0).c = c at *
              go_wp2
              go_region_held3 (fun w' => w'.cell? ⟨sb, 0, none⟩ = some (.int .i64 f) ∧ w'.cell? ⟨sb, 1, none⟩ = some (.int .i64 t) ∧ w'.cell? ⟨sb, 2, none⟩ = some (.string s) ∧ w'.cell? ⟨sb, 3, none⟩ = some (.bool l) ∧ w'.cell? ⟨sb, 4, none⟩ = some (.int .i64 c) ∧ w'.cell? ⟨b, o + i0 * 5, none⟩ = some (.int .i64 f) ∧ w'.cell? ⟨b, o + i0 * 5 + 1, none⟩ = some (.int .i64 t) ∧ w'.cell? ⟨b, o + i0 * 5 + 2, none⟩ = some (.string s) ∧ w'.cell? ⟨b, o + i0 * 5 + 3, none⟩ = some (.bool l) ∧ w'.cell? ⟨b, o + i0 * 5 + 4, none⟩ = some (.int .i64 c)) (go_keep)
                (first | (go_at_call 12; refine (conv_calls f t s l c _).mono ?_; rintro e w' ⟨rfl, rfl⟩))
              go_wp2
              go_roundw
              case rel => exact ⟨i0 + 1, by omega, by go_num, by rw [Nat.min_eq_left (by omega)]; exact ((hK3.alloc _).alloc _).drewN 1⟩
              case measure => simp [intOf]; omega
            · rw [Nat.min_eq_right (by omega)] at hKr
              go_wp2_with fail
              refine (zero_calls hKr hn off (fun h => by have := HB.out h; omega)).mono ?_
              rintro e w2 ⟨rfl, hK2⟩
              go_wp2
              go_roundw
              case rel => exact ⟨i0 + 1, by omega, by go_num, by rw [Nat.min_eq_right (by omega)]; exact hK2.alloc _⟩
              case measure => simp [intOf]; omega
          · rw [Nat.min_eq_right (by omega)] at hKr
            obtain ⟨aw, hs, hai⟩ := hKr.swaps
            clear hai
            have j0 : (0 : Int) ≤ (k : Int) := by omega
            have j1 : (k : Int) ≤ (n : Int) := by omega
            have j2 : (n : Int) ≤ (cap : Int) := by omega
            by_cases hck : cap = k
            · subst hck
              have hcn : n = cap := by omega
              subst hcn
              have hs0 : wr.cell? ⟨kb, 11, none⟩ = some (.slice aw 0 0) := by rw [Nat.sub_self] at hs; exact hs
              clear hs
              go_wp2
              go_region_held3 (fun w' => w'.cell? ⟨kb, 11, none⟩ = some (.slice aw 0 0)) (first | go_keep | exact later hB (by assumption))
                (first | (go_at_call 11; refine (matches_none _ _ _ _ _).mono ?_; rintro e w' ⟨rfl, hB⟩))
              go_wp2
              go_ret
              exact ⟨rfl, hKr.bel.drew.trans (hB.mono hKr.bel.size)⟩
            · have HC : Hid (Calls Yba.prog 11 #[.slice aw (n - k) (n - k), .slice (some ⟨b, o + k * 5, none⟩) (n - k) (cap - k)] wr.drew fun e w' => e = .returned (.bool true) ∧ Below wr.drew.heap.size wr.drew w') :=
                left_calls (hKr.drewN 1) hn aw _ hs (fun _ => rfl) (by omega)
              go_wp2
              go_region_held3 (fun w' => w'.cell? ⟨kb, 11, none⟩ = some (.slice aw (n - k) (n - k))) (first | go_keep | exact later hB (by assumption))
                (first | (go_at_call 11; refine HC.out.mono ?_; rintro e w' ⟨rfl, hB⟩))
              go_wp2
              go_ret
              exact ⟨rfl, hKr.bel.drew.trans (hB.mono hKr.bel.size)⟩

set_option maxHeartbeats 1000000 in
set_option maxRecDepth 100000 in
theorem walk_empty (a : Option Addr) (cap : Nat) (D : Nat → Sw) (off : Int) (w : World) (h : Arg w a 0 cap D) :
    Calls Yba.prog 6 #[.slice a 0 cap, .int .i64 off] w fun e w' => e = .returned (.bool true) ∧ Below w.heap.size w w' := by
  go_enter Yba.func6, Yba.ntmps6
  go_wp2
  go_loop [5] (fun i => i = .int .i64 0) (fun _ => 0)
  case atStart => exact rfl
  case round =>
    subst hrel
    go_wp2_with fail
    refine (build_calls _ 0 cap D w h (by omega)).mono ?_
    rintro e w1 ⟨a', rfl, hG⟩
    have hK := keep_made (b := 0) (o := 0) hG (fun h => absurd h (by omega)) (fun h => absurd h (by omega)) #[.pointer none, .slice none 0 0, .pointer none, .map none, .int .i64 0, .int .i64 0, .pointer none, .int .i64 0, .int .i64 0, .int .i64 0, .int .i64 0, .slice a' 0 0, .slice none 0 0, .map none] rfl
    clear hG
    go_wp2
    generalize w1.heap.size = kb at *
    go_loopw [7] (fun i wr => ∃ i0 : Nat, i0 ≤ 1 ∧ i = .int .i64 i0 ∧ Keep w kb 0 0 0 0 D wr) (fun i _ => 1 - (intOf i).toNat)
    case atStart => exact ⟨0, Nat.zero_le _, rfl, hK⟩
    case round =>
      obtain ⟨i0, hi0, rfl, hKr⟩ := hrel
      clear hK
      by_cases hle : i0 = 0
      · subst hle
        go_wp2_with fail
        refine (zero_calls hKr (by omega) off (fun h => absurd h (by omega))).mono ?_
        rintro e w2 ⟨rfl, hK2⟩
        go_wp2
        go_roundw
        case rel => exact ⟨1, by omega, by go_num, hK2.alloc _⟩
        case measure => simp [intOf]
      · have hi1 : i0 = 1 := by omega
        subst hi1
        obtain ⟨aw, hs, hai⟩ := hKr.swaps
        clear hai
        have hs0 : wr.cell? ⟨kb, 11, none⟩ = some (.slice aw 0 0) := hs
        clear hs
        cases a with
        | none =>
          go_wp2
          go_region_held3 (fun w' => w'.cell? ⟨kb, 11, none⟩ = some (.slice aw 0 0)) (first | go_keep | exact later hB (by assumption))
            (first | (go_at_call 11; refine (matches_none _ _ _ _ _).mono ?_; rintro e w' ⟨rfl, hB⟩))
          go_wp2
          go_ret
          exact ⟨rfl, hKr.bel.drew.trans (hB.mono hKr.bel.size)⟩
        | some x =>
          by_cases hc0 : cap = 0
          · subst hc0
            go_wp2
            go_region_held3 (fun w' => w'.cell? ⟨kb, 11, none⟩ = some (.slice aw 0 0)) (first | go_keep | exact later hB (by assumption))
              (first | (go_at_call 11; refine (matches_none _ _ _ _ _).mono ?_; rintro e w' ⟨rfl, hB⟩))
            go_wp2
            go_ret
            exact ⟨rfl, hKr.bel.drew.trans (hB.mono hKr.bel.size)⟩
          · have hc1 : ¬ 0 = cap := by omega
            go_wp2
            go_region_held3 (fun w' => w'.cell? ⟨kb, 11, none⟩ = some (.slice aw 0 0)) (first | go_keep | exact later hB (by assumption))
              (first | (go_at_call 11; refine (matches_none _ _ _ _ _).mono ?_; rintro e w' ⟨rfl, hB⟩))
            go_wp2
            go_ret
            exact ⟨rfl, hKr.bel.drew.trans (hB.mono hKr.bel.size)⟩
theorem own : ownKnob Yba.prog.godebug = none := by kernel_rfl
theorem laidOut : laidOutB Yba.prog = true := by kernel_rfl

theorem walk_all (a : Option Addr) (n cap : Nat) (D : Nat → Sw) (off : Int) (w : World) (h : Arg w a n cap D) :
    Calls Yba.prog 6 #[.slice a n cap, .int .i64 off] w fun e w' => e = .returned (.bool true) ∧ Below w.heap.size w w' := by
  by_cases hn : n ≤ 1024
  · rcases h.row with rfl | ⟨b, o, rfl, hb, hr⟩
    · exact walk_empty a cap D off w h
    · by_cases h0 : n = 0
      · subst h0; exact walk_empty _ cap D off w h
      · exact walk_full b o n cap D off w h hn (by omega) hb hr
  · have hb1 : (1024 : Int) < n := by omega
    clear h
    go_enter Yba.func6, Yba.ntmps6
    go_wp2
    go_ret
    exact ⟨rfl, Below.refl _ _⟩

/-! ### THE ROW's STEP: WRITTEN OUT: LEAVE IT -/
set_option maxRecDepth 100000 in
theorem lifted (os : Os) (started : os.Started) (H : Type) (enc : TypeId × Value → H) :
    ReturnsInHanded {} Yba.checked os 6 .any (Rows.lawS2533CDrainsPrefixSpec.pre6 enc Yba.prog Yba.f6 Rows.lawS2533CDrainsPrefixRow.domain false) (Rows.lawS2533CDrainsPrefixSpec.post enc Yba.prog Yba.f6 false true false false) := by
  refine returnsInHanded_of_change (C := Yba.checked) own started (by kernel_rfl) Yba.func6
    (ChangeSpec.witness6 (enc := enc) (C := Yba.checked) false ⟨#[], #[.slice none 0 0, .int .i64 0], []⟩ 8 (by kernel_rfl) (by kernel_rfl) (by kernel_rfl) (by kernel_rfl)) ?_
  intro W base args ds gs before hval0 hW hcnd _
  have hval : ∀ (j : Nat) t v, Yba.f6.params[j]? = some t → args[j]? = some v → Value.okWide Yba.prog W .any base t v := hval0
  have hW' := hW
  obtain ⟨p, q, hA0, hV, rfl, hfz, hnd⟩ := hW
  have hA : DataW.TrodAll enc Yba.prog W 0 (fun _ => true) true Yba.f6.params.toList args.toList ds p := hA0
  rw [Yba.params6] at hA hval
  obtain ⟨v0, vs0, d0, ds0, p0, q0, hargs, rfl, rfl, h0, r0⟩ := trodAll_cons hA
  obtain ⟨v1, vs1, d1, ds1, p1, q1, rfl, rfl, rfl, h1, r1⟩ := trodAll_cons r0
  obtain ⟨rfl, rfl, rfl⟩ := trodAll_nil r1
  obtain rfl : args = #[v0, v1] := by cases args; simp_all
  obtain ⟨rfl, rfl⟩ := trodVars_none hV
  obtain ⟨a0, len0, cap0, rfl⟩ := okWide_slice Yba.underlying28 (hval 0 28 v0 rfl rfl)
  have k0 := h0
  have lt0 : ∀ x ∈ p0, x.block < W.heap.size := by obtain ⟨m, hm⟩ := k0; exact DataW.trod_lt m _ _ _ hm
  obtain ⟨D, A0⟩ := arg_of h0
  obtain ⟨a1, rfl, rfl, rfl, w1⟩ := open_int Yba.underlying3 (hval 1 3 v1 rfl rfl) h1
  clear hA0 hval0
  refine (walk_all a0 len0 cap0 D a1 W A0).mono fun e W' ⟨he, bel⟩ => ?_
  subst he
  exact ⟨_, rfl, _, _, _, [], _, [], hW', trodAll_mk1 (shut_bool Yba.underlying4 _), (trodAll_cons_mk (Below.trod laidOut (by kernel_rfl) (of_decide_eq_true (by kernel_rfl)) k0 bel lt0) (trodAll_cons_mk (shut_int Yba.underlying3 w1) trodAll_mk0)), rfl, bel.frame _, fun h => by cases h⟩

theorem over : Rows.lawS2533CDrainsPrefixRow.holds Yba.pinned (OpenSpec.ofChange Rows.lawS2533CDrainsPrefixSpec) :=
  OpenClaim.holds_of_wide 6 Yba.f6 rfl rfl rfl rfl rfl rfl rfl ⟨rfl, rfl, rfl, rfl, rfl⟩ rfl rfl rfl rfl rfl (by kernel_rfl) Yba.func6 (by kernel_rfl)
    (of_decide_eq_true (by kernel_rfl)) (by unfold Func.isWrapper; first | (rw [if_pos (by decide +kernel)]; kernel_rfl) | (rw [if_neg (by decide +kernel)]; exact ⟨rfl, rfl⟩))
    (fun os started H enc _ => lifted os started H enc)

/-- ████ THE STATEMENT ████ -/
theorem proved : Rows.LawS2533CDrainsPrefixSaid := over
#print axioms proved
end Go.Proofs.Ybulkazky.lawS2533CDrainsPrefix
