import Derived.Test.YbulkazkyRows
import Derived.WalkKit
import Derived.WalkLawsBesides
import Derived.WalkSpells
import Derived.WalkSmall
import Derived.BigQuiet
import Derived.Deep.QuietTactic
import Derived.Deep.RegionHeld3
import Derived.Deep.Cut
namespace Go.Proofs.Ybulkazky.Swaps
open Go.ChangeShapes Go.WideShapes Go.RowKit
set_option linter.unusedVariables false

/-- One swap: its five cells' contents. -/
structure Sw where
  f : Int
  t : Int
  s : ByteArray
  l : Bool
  c : Int

/-- Row w b o n D: from offset o of block b on lie n swaps, five cells each, D 0, D 1, .. -/
structure Row (w : World) (b o n : Nat) (D : Nat → Sw) : Prop where
  f : ∀ i, i < n → w.cell? ⟨b, o + i * 5, none⟩ = some (.int .i64 (D i).f)
  t : ∀ i, i < n → w.cell? ⟨b, o + i * 5 + 1, none⟩ = some (.int .i64 (D i).t)
  s : ∀ i, i < n → w.cell? ⟨b, o + i * 5 + 2, none⟩ = some (.string (D i).s)
  l : ∀ i, i < n → w.cell? ⟨b, o + i * 5 + 3, none⟩ = some (.bool (D i).l)
  c : ∀ i, i < n → w.cell? ⟨b, o + i * 5 + 4, none⟩ = some (.int .i64 (D i).c)

theorem Row.below {B : Nat} {w w' : World} {b o n : Nat} {D : Nat → Sw} (h : Row w b o n D) (hb : Below B w w') (hlt : b < B) : Row w' b o n D where
  f i hi := by rw [hb.cell (by exact hlt)]; exact h.f i hi
  t i hi := by rw [hb.cell (by exact hlt)]; exact h.t i hi
  s i hi := by rw [hb.cell (by exact hlt)]; exact h.s i hi
  l i hi := by rw [hb.cell (by exact hlt)]; exact h.l i hi
  c i hi := by rw [hb.cell (by exact hlt)]; exact h.c i hi

theorem Row.drop {w : World} {b o n : Nat} {D : Nat → Sw} (h : Row w b o n D) (j : Nat) : Row w b (o + j * 5) (n - j) (fun i => D (j + i)) where
  f i hi := by have := h.f (j + i) (by omega); rwa [show o + (j + i) * 5 = o + j * 5 + i * 5 by omega] at this
  t i hi := by have := h.t (j + i) (by omega); rwa [show o + (j + i) * 5 = o + j * 5 + i * 5 by omega] at this
  s i hi := by have := h.s (j + i) (by omega); rwa [show o + (j + i) * 5 = o + j * 5 + i * 5 by omega] at this
  l i hi := by have := h.l (j + i) (by omega); rwa [show o + (j + i) * 5 = o + j * 5 + i * 5 by omega] at this
  c i hi := by have := h.c (j + i) (by omega); rwa [show o + (j + i) * 5 = o + j * 5 + i * 5 by omega] at this

/-- The conversion: the five cells as they are; two blocks are laid. -/
theorem conv_calls (f t : Int) (s : ByteArray) (l : Bool) (c : Int) (w : World) :
    Calls Yba.prog 12 #[.agg #[.int .i64 f, .int .i64 t, .string s, .bool l, .int .i64 c]] w fun e w' => e = .returned (.agg #[.int .i64 f, .int .i64 t, .string s, .bool l, .int .i64 c]) ∧
      w' = (w.alloc (.cells #[.int .i64 f, .int .i64 t, .string s, .bool l, .int .i64 c] 46)).alloc (.cells #[.int .i64 f, .int .i64 t, .string s, .bool l, .int .i64 c] 43) := by
  go_enter Yba.func12, Yba.ntmps12
  go_wp2
  refine bodyPost_ret (v := .agg #[.int .i64 f, .int .i64 t, .string s, .bool l, .int .i64 c]) (by simp [results, Yba.results12, go_sem]) rfl ⟨rfl, rfl⟩

theorem neq_self (f t : Int) (s : ByteArray) (l : Bool) (c : Int) (w : World) : (binOp .neq 43 (.agg #[.int .i64 f, .int .i64 t, .string s, .bool l, .int .i64 c]) (.agg #[.int .i64 f, .int .i64 t, .string s, .bool l, .int .i64 c])).run Yba.prog w = .ok (.bool false) w := by
  simp [go_sem]
theorem eql_self (f t : Int) (s : ByteArray) (l : Bool) (c : Int) (w : World) : (binOp .eql 43 (.agg #[.int .i64 f, .int .i64 t, .string s, .bool l, .int .i64 c]) (.agg #[.int .i64 f, .int .i64 t, .string s, .bool l, .int .i64 c])).run Yba.prog w = .ok (.bool true) w := by
  simp [go_sem]

/-- Two rows that hold the same swaps match. -/
theorem matches_some (g og b o m cg cb : Nat) (D : Nat → Sw) (w : World) (hg : Row w g og m D) (hi : Row w b o m D) (hm : m ≤ 1024) (hmg : m ≤ cg) (hmb : m ≤ cb) (hgw : g < w.heap.size) (hbw : b < w.heap.size) :
    Calls Yba.prog 11 #[.slice (some ⟨g, og, none⟩) m cg, .slice (some ⟨b, o, none⟩) m cb] w fun e w' => e = .returned (.bool true) ∧ Below w.heap.size w w' := by
  go_enter Yba.func11, Yba.ntmps11
  go_wp2
  go_loopw [5] (fun i wr => ∃ k : Nat, k ≤ m ∧ i = .int .i64 k ∧ Below w.heap.size w wr) (fun i _ => m - (intOf i).toNat)
  case atStart => exact ⟨0, Nat.zero_le _, rfl, Below.refl _ _⟩
  case round =>
    obtain ⟨k, hk, rfl, hB⟩ := hrel
    by_cases hlt : k < m
    · have rg := hg.below hB hgw
      have ri := hi.below hB hbw
      have a0 := rg.f k hlt
      have a1 := rg.t k hlt
      have a2 := rg.s k hlt
      have a3 := rg.l k hlt
      have a4 := rg.c k hlt
      have b0 := ri.f k hlt
      have b1 := ri.t k hlt
      have b2 := ri.s k hlt
      have b3 := ri.l k hlt
      have b4 := ri.c k hlt
      clear rg ri
      generalize (D k).f = f at *
      generalize (D k).t = t at *
      generalize (D k).s = s at *
      generalize (D k).l = l at *
      generalize (D k).c = c at *
      have i0 : (0 : Int) ≤ (k : Int) := by omega
      have i1 : (k : Int) < (m : Int) := by omega
      clear hg hi
      go_wp2
      go_region_held3 (fun w' => w'.cell? ⟨g, og + k * 5, none⟩ = some (.int .i64 f) ∧ w'.cell? ⟨g, og + k * 5 + 1, none⟩ = some (.int .i64 t) ∧ w'.cell? ⟨g, og + k * 5 + 2, none⟩ = some (.string s) ∧ w'.cell? ⟨g, og + k * 5 + 3, none⟩ = some (.bool l) ∧ w'.cell? ⟨g, og + k * 5 + 4, none⟩ = some (.int .i64 c) ∧
        w'.cell? ⟨b, o + k * 5, none⟩ = some (.int .i64 f) ∧ w'.cell? ⟨b, o + k * 5 + 1, none⟩ = some (.int .i64 t) ∧ w'.cell? ⟨b, o + k * 5 + 2, none⟩ = some (.string s) ∧ w'.cell? ⟨b, o + k * 5 + 3, none⟩ = some (.bool l) ∧ w'.cell? ⟨b, o + k * 5 + 4, none⟩ = some (.int .i64 c)) (go_keep)
        (first | (go_at_call 12; refine (conv_calls f t s l c _).mono ?_; rintro e w' ⟨rfl, rfl⟩))
      have hsz := hB.size
      go_wp2
      go_roundw
      case rel => exact ⟨k + 1, by omega, by go_num, ((hB.alloc hsz _).alloc (by simp; omega) _).drew⟩
      case measure => simp [intOf]; omega
    · go_wp2
      go_ret
      exact ⟨rfl, hB⟩

theorem matches_none (a b : Option Addr) (cg cb : Nat) (w : World) :
    Calls Yba.prog 11 #[.slice a 0 cg, .slice b 0 cb] w fun e w' => e = .returned (.bool true) ∧ Below w.heap.size w w' := by
  go_enter Yba.func11, Yba.ntmps11
  go_wp2
  go_loop [5] (fun i => i = .int .i64 0) (fun _ => 0)
  case atStart => exact rfl
  case round =>
    subst hrel
    go_wp2
    go_ret
    exact ⟨rfl, Below.refl _ _⟩

/-- The zero swap: where none is left .. -/
theorem before_none (kb cap : Nat) (a : Option Addr) (off : Int) (w : World) (hk : w.cell? ⟨kb, 11, none⟩ = some (.slice a 0 cap)) (hkb : kb < w.heap.size) :
    Calls Yba.prog 10 #[.pointer (some ⟨kb, 0, none⟩), .int .i64 off] w fun e w' => e = .returned (.agg #[.int .i64 0, .int .i64 0, .string ⟨#[]⟩, .bool false, .int .i64 0]) ∧ ∃ o, w' = w.alloc o := by
  go_enter Yba.func10, Yba.ntmps10
  go_wp2
  exact bodyPost_ret (v := .agg #[.int .i64 0, .int .i64 0, .string ⟨#[]⟩, .bool false, .int .i64 0]) (by simp [results, Yba.results10, go_sem]) rfl ⟨rfl, _, rfl⟩

/-- .. or the first begins at or behind the offset. -/
theorem before_late (kb g o m cap : Nat) (f off : Int) (w : World) (hk : w.cell? ⟨kb, 11, none⟩ = some (.slice (some ⟨g, o, none⟩) m cap)) (hm : 0 < m) (hmc : m ≤ 1024)
    (h0 : w.cell? ⟨g, o, none⟩ = some (.int .i64 f)) (hkb : kb < w.heap.size) (hg : g < w.heap.size) (hf : off ≤ f) :
    Calls Yba.prog 10 #[.pointer (some ⟨kb, 0, none⟩), .int .i64 off] w fun e w' => e = .returned (.agg #[.int .i64 0, .int .i64 0, .string ⟨#[]⟩, .bool false, .int .i64 0]) ∧ ∃ o, w' = w.alloc o := by
  have hb0 : ((m : Int) == 0) = false := by simp; omega
  go_enter Yba.func10, Yba.ntmps10
  go_wp2
  exact bodyPost_ret (v := .agg #[.int .i64 0, .int .i64 0, .string ⟨#[]⟩, .bool false, .int .i64 0]) (by simp [results, Yba.results10, go_sem]) rfl ⟨rfl, _, rfl⟩

/-- The keeper (block kb) has forgotten its first swap, of m in block g from offset o on. -/
def Forgot (w w' : World) (kb g o m : Nat) : Prop := ∃ o', (1 < m → o' = o + 5) ∧ ∃ x y, w' = ((w.setCell ⟨kb, 11, none⟩ (.slice (some ⟨g, o', none⟩) (m - 1) (m - 1))).alloc x).alloc y

/-- The first swap, which the keeper forgets. -/
theorem before_some (kb g o m : Nat) (f t : Int) (s : ByteArray) (l : Bool) (c off : Int) (w : World) (hk : w.cell? ⟨kb, 11, none⟩ = some (.slice (some ⟨g, o, none⟩) m m)) (hz : w.frozen? ⟨kb, 11, none⟩ = false)
    (hm : 0 < m) (hmc : m ≤ 1024)
    (h0 : w.cell? ⟨g, o, none⟩ = some (.int .i64 f)) (h1 : w.cell? ⟨g, o + 1, none⟩ = some (.int .i64 t)) (h2 : w.cell? ⟨g, o + 2, none⟩ = some (.string s)) (h3 : w.cell? ⟨g, o + 3, none⟩ = some (.bool l)) (h4 : w.cell? ⟨g, o + 4, none⟩ = some (.int .i64 c))
    (hkb : kb < w.heap.size) (hg : g < w.heap.size) (hf : ¬ off ≤ f) :
    Calls Yba.prog 10 #[.pointer (some ⟨kb, 0, none⟩), .int .i64 off] w fun e w' => e = .returned (.agg #[.int .i64 f, .int .i64 t, .string s, .bool l, .int .i64 c]) ∧
      Forgot w w' kb g o m := by
  have hb0 : ((m : Int) == 0) = false := by simp; omega
  by_cases h1m : m = 1
  · subst h1m
    go_enter Yba.func10, Yba.ntmps10
    go_wp2
    exact bodyPost_ret (v := .agg #[.int .i64 f, .int .i64 t, .string s, .bool l, .int .i64 c]) (by simp [results, Yba.results10, go_sem]) rfl ⟨rfl, o, fun h => absurd h (by omega), _, _, rfl⟩
  · go_enter Yba.func10, Yba.ntmps10
    go_wp2
    exact bodyPost_ret (v := .agg #[.int .i64 f, .int .i64 t, .string s, .bool l, .int .i64 c]) (by simp [results, Yba.results10, go_sem]) rfl ⟨rfl, o + 5, fun _ => rfl, _, _, rfl⟩

theorem info43 : (Yba.prog.info? 43).map (fun i => (i.zero, i.size, i.bytes)) = some (some (.agg #[.int .i64 0, .int .i64 0, .string ⟨#[]⟩, .bool false, .int .i64 0]), 5, 48) := by kernel_rfl
/-- A new row of n zero swaps. -/
def zeros (n : Nat) : Array Value := madeCells #[.int .i64 0, .int .i64 0, .string ⟨#[]⟩, .bool false, .int .i64 0] (n * 5)
theorem zeros_there (n i : Nat) (h : i < n * 5) : ∃ v, (zeros n)[i]? = some v := by
  have : i < (zeros n).size := by unfold zeros; rw [size_madeCells]; exact h
  exact ⟨_, Array.getElem?_eq_getElem this⟩
theorem mk30 (n : Nat) (hn : n ≤ 1024) (w : World) :
    (Instr.makeSlice 30 (.int .i64 n) (.int .i64 n)).run Yba.prog w = .ok (.slice (some ⟨w.heap.size, 0, none⟩) n n) (w.alloc (.cells (zeros n) 43)) := by
  obtain ⟨i, hi, hzz⟩ := Option.map_eq_some_iff.1 info43
  simp only [Prod.mk.injEq] at hzz
  obtain ⟨hz, hs, hb⟩ := hzz
  have hr := run_make (P := Yba.prog) w 30 43 i _ Yba.underlying30 hi hz .i64 .i64 n n (by omega) (Int.le_refl _) (by rw [hb]; omega) (by omega)
  simp only [Int.toNat_natCast, hs] at hr
  exact hr

/-- While the law builds its swaps in block B: k of n are laid. -/
structure Laid (B n k : Nat) (w wr : World) (D : Nat → Sw) : Prop where
  row : Row wr B 0 k D
  there : ∀ i, i < n * 5 → ∃ v, wr.cell? ⟨B, i, none⟩ = some v
  fz : ∀ i, i < n * 5 → wr.frozen? ⟨B, i, none⟩ = false
  bel : Below B w wr
  lt : B < wr.heap.size

theorem far {w : World} {b b' o o' : Nat} {v : Value} (h : b ≠ b' ∨ o ≠ o') : (w.setCell ⟨b, o, none⟩ v).cell? ⟨b', o', none⟩ = w.cell? ⟨b', o', none⟩ :=
  World.cell?_setCell_other _ _ _ _ (by intro e; injection e; omega)

/-- The five cells of one swap, stored. -/
def put5 (B p : Nat) (wr : World) (d : Sw) : World :=
  ((((wr.setCell ⟨B, p, none⟩ (.int .i64 d.f)).setCell ⟨B, p + 1, none⟩ (.int .i64 d.t)).setCell ⟨B, p + 2, none⟩ (.string d.s)).setCell ⟨B, p + 3, none⟩ (.bool d.l)).setCell ⟨B, p + 4, none⟩ (.int .i64 d.c)
theorem put5_size (B p : Nat) (wr : World) (d : Sw) : (put5 B p wr d).heap.size = wr.heap.size := by simp [put5]
theorem put5_far {B p : Nat} {wr : World} {d : Sw} {b o : Nat} (h : b ≠ B ∨ o < p ∨ p + 4 < o) : (put5 B p wr d).cell? ⟨b, o, none⟩ = wr.cell? ⟨b, o, none⟩ := by
  unfold put5
  rw [far (by omega), far (by omega), far (by omega), far (by omega), far (by omega)]
theorem put5_frozen {B p : Nat} {wr : World} {d : Sw} {a : Addr} : (put5 B p wr d).frozen? a = wr.frozen? a := by simp [put5]
theorem put5_0 {B p : Nat} {wr : World} {d : Sw} {v : Value} (h : wr.cell? ⟨B, p, none⟩ = some v) : (put5 B p wr d).cell? ⟨B, p, none⟩ = some (.int .i64 d.f) := by
  unfold put5
  rw [far (by omega), far (by omega), far (by omega), far (by omega)]
  exact World.cell?_setCell_same _ _ _ h
theorem put5_1 {B p : Nat} {wr : World} {d : Sw} {v : Value} (h : wr.cell? ⟨B, p + 1, none⟩ = some v) : (put5 B p wr d).cell? ⟨B, p + 1, none⟩ = some (.int .i64 d.t) := by
  unfold put5
  rw [far (by omega), far (by omega), far (by omega)]
  exact World.cell?_setCell_same _ _ _ (by rw [far (by omega)]; exact h)
theorem put5_2 {B p : Nat} {wr : World} {d : Sw} {v : Value} (h : wr.cell? ⟨B, p + 2, none⟩ = some v) : (put5 B p wr d).cell? ⟨B, p + 2, none⟩ = some (.string d.s) := by
  unfold put5
  rw [far (by omega), far (by omega)]
  exact World.cell?_setCell_same _ _ _ (by rw [far (by omega), far (by omega)]; exact h)
theorem put5_3 {B p : Nat} {wr : World} {d : Sw} {v : Value} (h : wr.cell? ⟨B, p + 3, none⟩ = some v) : (put5 B p wr d).cell? ⟨B, p + 3, none⟩ = some (.bool d.l) := by
  unfold put5
  rw [far (by omega)]
  exact World.cell?_setCell_same _ _ _ (by rw [far (by omega), far (by omega), far (by omega)]; exact h)
theorem put5_4 {B p : Nat} {wr : World} {d : Sw} {v : Value} (h : wr.cell? ⟨B, p + 4, none⟩ = some v) : (put5 B p wr d).cell? ⟨B, p + 4, none⟩ = some (.int .i64 d.c) := by
  unfold put5
  exact World.cell?_setCell_same _ _ _ (by rw [far (by omega), far (by omega), far (by omega), far (by omega)]; exact h)
theorem put5_below {B p : Nat} {w wr : World} {d : Sw} (h : Below B w wr) : Below B w (put5 B p wr d) :=
  ((((h.setCell (Nat.le_refl _) _).setCell (Nat.le_refl _) _).setCell (Nat.le_refl _) _).setCell (Nat.le_refl _) _).setCell (Nat.le_refl _) _

/-- A row of swaps stays where new blocks are laid. -/
theorem Row.alloc {w : World} {b o n : Nat} {D : Nat → Sw} (h : Row w b o n D) (hb : b < w.heap.size) (x : Obj) : Row (w.alloc x) b o n D :=
  h.below (B := w.heap.size) ((Below.refl _ _).alloc (Nat.le_refl _) _) hb

theorem laid_step {B n k : Nat} {w wr : World} {D : Nat → Sw} (h : Laid B n k w wr D) (hk : k < n) (x y : Obj) : Laid B n (k + 1) w (((put5 B (k * 5) wr (D k)).alloc x).alloc y) D := by
  have hlt := h.lt
  have hold : ∀ o, (((put5 B (k * 5) wr (D k)).alloc x).alloc y).cell? ⟨B, o, none⟩ = (put5 B (k * 5) wr (D k)).cell? ⟨B, o, none⟩ := fun o => by
    rw [World.cell?_alloc_past _ _ _ (by simp [put5_size]; omega), World.cell?_alloc_past _ _ _ (by simp [put5_size]; omega)]
  have th := fun j (hj : j < 5) => h.there (k * 5 + j) (by omega)
  refine ⟨⟨fun i hi => ?_, fun i hi => ?_, fun i hi => ?_, fun i hi => ?_, fun i hi => ?_⟩, fun i hi => ?_, fun i hi => ?_, ?_, ?_⟩
  · rw [hold]
    by_cases e : i = k
    · subst e; obtain ⟨v, hv⟩ := th 0 (by omega); rw [show 0 + i * 5 = i * 5 by omega]; exact put5_0 hv
    · rw [put5_far (by omega)]; exact h.row.f i (by omega)
  · rw [hold]
    by_cases e : i = k
    · subst e; obtain ⟨v, hv⟩ := th 1 (by omega); rw [show 0 + i * 5 + 1 = i * 5 + 1 by omega]; exact put5_1 hv
    · rw [put5_far (by omega)]; exact h.row.t i (by omega)
  · rw [hold]
    by_cases e : i = k
    · subst e; obtain ⟨v, hv⟩ := th 2 (by omega); rw [show 0 + i * 5 + 2 = i * 5 + 2 by omega]; exact put5_2 hv
    · rw [put5_far (by omega)]; exact h.row.s i (by omega)
  · rw [hold]
    by_cases e : i = k
    · subst e; obtain ⟨v, hv⟩ := th 3 (by omega); rw [show 0 + i * 5 + 3 = i * 5 + 3 by omega]; exact put5_3 hv
    · rw [put5_far (by omega)]; exact h.row.l i (by omega)
  · rw [hold]
    by_cases e : i = k
    · subst e; obtain ⟨v, hv⟩ := th 4 (by omega); rw [show 0 + i * 5 + 4 = i * 5 + 4 by omega]; exact put5_4 hv
    · rw [put5_far (by omega)]; exact h.row.c i (by omega)
  · rw [hold]
    by_cases c : i < k * 5 ∨ k * 5 + 4 < i
    · rw [put5_far (by omega)]; exact h.there i hi
    · obtain ⟨v, hv⟩ := h.there i hi
      have : i = k * 5 ∨ i = k * 5 + 1 ∨ i = k * 5 + 2 ∨ i = k * 5 + 3 ∨ i = k * 5 + 4 := by omega
      rcases this with rfl | rfl | rfl | rfl | rfl
      · exact ⟨_, put5_0 hv⟩
      · exact ⟨_, put5_1 hv⟩
      · exact ⟨_, put5_2 hv⟩
      · exact ⟨_, put5_3 hv⟩
      · exact ⟨_, put5_4 hv⟩
  · rw [World.frozen?_alloc_past _ _ _ (by simp [put5_size]; omega), World.frozen?_alloc_past _ _ _ (by simp [put5_size]; omega), put5_frozen]
    exact h.fz i hi
  · exact ((put5_below h.bel).alloc (by simp [put5_size]; omega) _).alloc (by simp [put5_size]; omega) _
  · simp [put5_size]; omega

theorem build_some (b o n cap : Nat) (D : Nat → Sw) (w : World) (hi : Row w b o n D) (hn : n ≤ 1024) (hnc : n ≤ cap) (hc : cap ≤ maxLen) (hbw : b < w.heap.size) :
    Calls Yba.prog 9 #[.slice (some ⟨b, o, none⟩) n cap] w fun e w' => e = .returned (.slice (some ⟨w.heap.size, 0, none⟩) n n) ∧ Row w' w.heap.size 0 n D ∧ Below w.heap.size w w' ∧ w.heap.size < w'.heap.size := by
  have hmk := mk30 n hn
  have hne : ∀ w, (binOp .eql 28 (.slice (some ⟨b, o, none⟩) n cap) (.slice none 0 0)).run Yba.prog w = .ok (.bool false) w := fun w => Lib.run_eql_slice_nil w 28 46 _ _ _ 0 0 Yba.underlying28
  unfold maxLen at hc
  go_enter Yba.func9, Yba.ntmps9
  go_wp2
  clear hmk hne
  go_loopw [4] (fun i wr => ∃ k : Nat, k ≤ n ∧ i = .int .i64 k ∧ Laid w.heap.size n k w wr D) (fun i _ => n - (intOf i).toNat)
  case atStart =>
    refine ⟨0, Nat.zero_le _, rfl, ⟨⟨fun i hi => by omega, fun i hi => by omega, fun i hi => by omega, fun i hi => by omega, fun i hi => by omega⟩, fun i hi => ?_, fun i hi => ?_, (Below.refl _ _).alloc (Nat.le_refl _) _, by simp⟩⟩
    · rw [World.cell?_alloc_at _ _ _ _ rfl]; exact zeros_there n i hi
    · rw [World.frozen?_alloc_at _ _ _ _ rfl]
  case round =>
    obtain ⟨k, hk, rfl, hL⟩ := hrel
    by_cases hlt : k < n
    · have ri := hi.below hL.bel hbw
      have b0 := ri.f k hlt
      have b1 := ri.t k hlt
      have b2 := ri.s k hlt
      have b3 := ri.l k hlt
      have b4 := ri.c k hlt
      clear ri hi
      have R := laid_step hL hlt (.cells #[.int .i64 (D k).f, .int .i64 (D k).t, .string (D k).s, .bool (D k).l, .int .i64 (D k).c] 46) (.cells #[.int .i64 (D k).f, .int .i64 (D k).t, .string (D k).s, .bool (D k).l, .int .i64 (D k).c] 43)
      unfold put5 at R
      generalize (D k).f = f at *
      generalize (D k).t = t at *
      generalize (D k).s = s at *
      generalize (D k).l = l at *
      generalize (D k).c = c at *
      obtain ⟨v0, c0⟩ := hL.there (k * 5) (by omega)
      obtain ⟨v1, c1⟩ := hL.there (k * 5 + 1) (by omega)
      obtain ⟨v2, c2⟩ := hL.there (k * 5 + 2) (by omega)
      obtain ⟨v3, c3⟩ := hL.there (k * 5 + 3) (by omega)
      obtain ⟨v4, c4⟩ := hL.there (k * 5 + 4) (by omega)
      have z0 := hL.fz (k * 5) (by omega)
      have z1 := hL.fz (k * 5 + 1) (by omega)
      have z2 := hL.fz (k * 5 + 2) (by omega)
      have z3 := hL.fz (k * 5 + 3) (by omega)
      have z4 := hL.fz (k * 5 + 4) (by omega)
      have hlw := hL.lt
      go_wp2_with fail
      refine (conv_calls f t s l c _).mono ?_
      rintro e w' ⟨rfl, rfl⟩
      clear hL
      go_wp2
      go_roundw
      case rel => exact ⟨k + 1, by omega, by go_num, R⟩
      case measure => simp [intOf]; omega
    · go_wp2
      have hkn : k = n := by omega
      subst hkn
      go_ret
      exact ⟨rfl, hL.row, hL.bel, hL.lt⟩

/-- What the walks are told of the law's slice. -/
structure Arg (w : World) (a : Option Addr) (n cap : Nat) (D : Nat → Sw) : Prop where
  le : n ≤ cap
  max : cap ≤ maxLen
  row : n = 0 ∨ ∃ b o, a = some ⟨b, o, none⟩ ∧ b < w.heap.size ∧ Row w b o n D

/-- What the built slice is. -/
structure Got (w w' : World) (a' : Option Addr) (n : Nat) (D : Nat → Sw) : Prop where
  at_ : 0 < n → a' = some ⟨w.heap.size, 0, none⟩
  row : 0 < n → Row w' w.heap.size 0 n D
  lt : 0 < n → w.heap.size < w'.heap.size
  bel : Below w.heap.size w w'

theorem build_calls (a : Option Addr) (n cap : Nat) (D : Nat → Sw) (w : World) (h : Arg w a n cap D) (hn : n ≤ 1024) :
    Calls Yba.prog 9 #[.slice a n cap] w fun e w' => ∃ a', e = .returned (.slice a' n n) ∧ Got w w' a' n D := by
  rcases h.row with rfl | ⟨b, o, rfl, hb, hr⟩
  · cases a with
    | none =>
      have hne : ∀ w, (binOp .eql 28 (.slice none 0 cap) (.slice none 0 0)).run Yba.prog w = .ok (.bool true) w := fun w => Lib.run_eql_slice_nil w 28 46 _ _ _ 0 0 Yba.underlying28
      go_enter Yba.func9, Yba.ntmps9
      go_wp2
      go_ret
      exact ⟨_, rfl, fun h => absurd h (by omega), fun h => absurd h (by omega), fun h => absurd h (by omega), Below.refl _ _⟩
    | some x =>
      have hmk : ∀ w : World, (Instr.makeSlice 30 (.int .i64 0) (.int .i64 0)).run Yba.prog w = .ok (.slice (some ⟨w.heap.size, 0, none⟩) 0 0) (w.alloc (.cells (zeros 0) 43)) := fun w => mk30 0 (by omega) w
      have hne : ∀ w, (binOp .eql 28 (.slice (some x) 0 cap) (.slice none 0 0)).run Yba.prog w = .ok (.bool false) w := fun w => Lib.run_eql_slice_nil w 28 46 _ _ _ 0 0 Yba.underlying28
      go_enter Yba.func9, Yba.ntmps9
      go_wp2
      go_loop [4] (fun i => i = .int .i64 0) (fun _ => 0)
      case atStart => exact rfl
      case round =>
        subst hrel
        go_wp2
        go_ret
        exact ⟨_, rfl, fun h => absurd h (by omega), fun h => absurd h (by omega), fun h => absurd h (by omega), (Below.refl _ _).alloc (Nat.le_refl _) _⟩
  · exact (build_some b o n cap D w hr hn h.le h.max hb).mono fun e w' ⟨he, h1, h2, h3⟩ => ⟨_, he, fun _ => rfl, fun _ => h1, fun _ => h3, h2⟩

/-- THE KEEPER (block kb) AND THE LAW's SLICE, once j of the n swaps have been handed out. w: the world in which the law was called. -/
structure Keep (w : World) (kb b o n j : Nat) (D : Nat → Sw) (wr : World) : Prop where
  swaps : ∃ a, wr.cell? ⟨kb, 11, none⟩ = some (.slice a (n - j) (n - j)) ∧ (j < n → a = some ⟨w.heap.size, j * 5, none⟩)
  fz : wr.frozen? ⟨kb, 11, none⟩ = false
  row : 0 < n → Row wr w.heap.size 0 n D
  inn : 0 < n → Row wr b o n D
  lt : kb < wr.heap.size
  new : w.heap.size ≤ kb
  apart : 0 < n → w.heap.size < kb
  old : 0 < n → b < w.heap.size
  bel : Below w.heap.size w wr

/-- The keeper is made. -/
theorem keep_made {w w1 : World} {a' : Option Addr} {b o n : Nat} {D : Nat → Sw} (hG : Got w w1 a' n D) (hb : 0 < n → b < w.heap.size) (hr : 0 < n → Row w b o n D) (cs : Array Value) (hc : cs[11]? = some (.slice a' n n)) :
    Keep w w1.heap.size b o n 0 D (w1.alloc (.cells cs 39)) where
  swaps := ⟨a', by rw [World.cell?_alloc_at _ _ _ _ rfl, hc]; rfl, fun h => by rw [hG.at_ h, Nat.zero_mul]⟩
  fz := by rw [World.frozen?_alloc_at _ _ _ _ rfl]
  row h := (hG.row h).alloc (hG.lt h) _
  inn h := ((hr h).below hG.bel (hb h)).alloc (Nat.lt_of_lt_of_le (hb h) hG.bel.size) _
  lt := by simp
  new := hG.bel.size
  apart := hG.lt
  old := hb
  bel := hG.bel.alloc hG.bel.size _

theorem Keep.alloc {w : World} {kb b o n j : Nat} {D : Nat → Sw} {wr : World} (h : Keep w kb b o n j D wr) (x : Obj) : Keep w kb b o n j D (wr.alloc x) where
  swaps := by obtain ⟨a, h1, h2⟩ := h.swaps; exact ⟨a, by rw [World.cell?_alloc_past _ _ _ h.lt]; exact h1, h2⟩
  fz := by rw [World.frozen?_alloc_past _ _ _ h.lt]; exact h.fz
  row hn := (h.row hn).alloc (Nat.lt_trans (h.apart hn) h.lt) _
  inn hn := (h.inn hn).alloc (Nat.lt_of_lt_of_le (h.old hn) h.bel.size) _
  lt := by have := h.lt; simp; omega
  new := h.new
  apart := h.apart
  old := h.old
  bel := h.bel.alloc h.bel.size _

theorem Keep.drewN {w : World} {kb b o n j : Nat} {D : Nat → Sw} {wr : World} (h : Keep w kb b o n j D wr) (q : Nat) : Keep w kb b o n j D (wr.drewN q) :=
  ⟨h.swaps, h.fz, fun hn => ⟨(h.row hn).f, (h.row hn).t, (h.row hn).s, (h.row hn).l, (h.row hn).c⟩, fun hn => ⟨(h.inn hn).f, (h.inn hn).t, (h.inn hn).s, (h.inn hn).l, (h.inn hn).c⟩, h.lt, h.new, h.apart, h.old, below_drewN h.bel q⟩

theorem Row.setCell {w : World} {b o n : Nat} {D : Nat → Sw} (h : Row w b o n D) {kb p : Nat} (hne : kb ≠ b) (v : Value) : Row (w.setCell ⟨kb, p, none⟩ v) b o n D where
  f i hi := by rw [far (.inl hne)]; exact h.f i hi
  t i hi := by rw [far (.inl hne)]; exact h.t i hi
  s i hi := by rw [far (.inl hne)]; exact h.s i hi
  l i hi := by rw [far (.inl hne)]; exact h.l i hi
  c i hi := by rw [far (.inl hne)]; exact h.c i hi

/-- One more is handed out. -/
theorem keep_forgot {w : World} {kb b o n j : Nat} {D : Nat → Sw} {wr w' : World} (h : Keep w kb b o n j D wr) (hj : j < n) (hf : Forgot wr w' kb w.heap.size (j * 5) (n - j)) : Keep w kb b o n (j + 1) D w' := by
  obtain ⟨o', ho, x, y, rfl⟩ := hf
  obtain ⟨a, h1, h2⟩ := h.swaps
  have hap := h.apart (by omega)
  have hold := h.old (by omega)
  have K : Keep w kb b o n (j + 1) D (wr.setCell ⟨kb, 11, none⟩ (.slice (some ⟨w.heap.size, o', none⟩) (n - j - 1) (n - j - 1))) :=
    { swaps := ⟨some ⟨w.heap.size, o', none⟩, by rw [World.cell?_setCell_same _ _ _ h1, show n - j - 1 = n - (j + 1) by omega], fun hlt => by rw [ho (by omega), show (j + 1) * 5 = j * 5 + 5 by omega]⟩
      fz := by rw [World.frozen?_setCell]; exact h.fz
      row := fun hn => (h.row hn).setCell (by omega) _
      inn := fun hn => (h.inn hn).setCell (by omega) _
      lt := by have := h.lt; simpa using this
      new := h.new
      apart := h.apart
      old := h.old
      bel := h.bel.setCell h.new _ }
  exact (K.alloc x).alloc y

/-- swapBefore, where the next swap begins before the offset. -/
theorem take_calls {w : World} {kb b o n j : Nat} {D : Nat → Sw} {wr : World} (h : Keep w kb b o n j D wr) (hj : j < n) (hn : n ≤ 1024) (off : Int) (hf : (D j).f < off) :
    Calls Yba.prog 10 #[.pointer (some ⟨kb, 0, none⟩), .int .i64 off] wr fun e w' => e = .returned (.agg #[.int .i64 (D j).f, .int .i64 (D j).t, .string (D j).s, .bool (D j).l, .int .i64 (D j).c]) ∧ Keep w kb b o n (j + 1) D w' := by
  obtain ⟨a, h1, h2⟩ := h.swaps
  rw [h2 hj] at h1
  have r := h.row (by omega)
  have r0 := r.f j hj
  have r1 := r.t j hj
  have r2 := r.s j hj
  have r3 := r.l j hj
  have r4 := r.c j hj
  rw [show 0 + j * 5 = j * 5 by omega] at r0 r1 r2 r3 r4
  exact (before_some kb w.heap.size (j * 5) (n - j) _ _ _ _ _ off wr h1 h.fz (by omega) (by omega) r0 r1 r2 r3 r4 h.lt (Nat.lt_trans (h.apart (by omega)) h.lt) (by omega)).mono fun e w' ⟨he, hw⟩ => ⟨he, keep_forgot h hj hw⟩

/-- swapBefore, where there is none such. -/
theorem zero_calls {w : World} {kb b o n j : Nat} {D : Nat → Sw} {wr : World} (h : Keep w kb b o n j D wr) (hn : n ≤ 1024) (off : Int) (hf : j < n → ¬ (D j).f < off) :
    Calls Yba.prog 10 #[.pointer (some ⟨kb, 0, none⟩), .int .i64 off] wr fun e w' => e = .returned (.agg #[.int .i64 0, .int .i64 0, .string ⟨#[]⟩, .bool false, .int .i64 0]) ∧ Keep w kb b o n j D w' := by
  obtain ⟨a, h1, h2⟩ := h.swaps
  by_cases hj : j < n
  · rw [h2 hj] at h1
    have r0 := (h.row (by omega)).f j hj
    rw [show 0 + j * 5 = j * 5 by omega] at r0
    refine (before_late kb w.heap.size (j * 5) (n - j) _ _ off wr h1 (by omega) (by omega) r0 h.lt (Nat.lt_trans (h.apart (by omega)) h.lt) (by have := hf hj; omega)).mono ?_
    rintro e w' ⟨he, x, rfl⟩
    exact ⟨he, h.alloc x⟩
  · rw [show n - j = 0 by omega] at h1
    refine (before_none kb _ a off wr h1 h.lt).mono ?_
    rintro e w' ⟨he, x, rfl⟩
    exact ⟨he, h.alloc x⟩

/-- What is left of the keeper's swaps matches what is left of the law's. ai: the address of 'in[j:]'. -/
theorem left_calls {w : World} {kb b o n j cb : Nat} {D : Nat → Sw} {wr : World} (h : Keep w kb b o n j D wr) (hn : n ≤ 1024) (a ai : Option Addr) (hs : wr.cell? ⟨kb, 11, none⟩ = some (.slice a (n - j) (n - j)))
    (hai : j < n → ai = some ⟨b, o + j * 5, none⟩) (hcb : n - j ≤ cb) :
    Calls Yba.prog 11 #[.slice a (n - j) (n - j), .slice ai (n - j) cb] wr fun e w' => e = .returned (.bool true) ∧ Below wr.heap.size wr w' := by
  by_cases hj : j < n
  · obtain ⟨a2, h1, h2⟩ := h.swaps
    rw [hs] at h1
    simp only [Option.some.injEq, Value.slice.injEq] at h1
    obtain ⟨rfl, _, _⟩ := h1
    rw [h2 hj, hai hj]
    have r1 := (h.row (by omega)).drop j
    have r2 := (h.inn (by omega)).drop j
    rw [show 0 + j * 5 = j * 5 by omega] at r1
    exact matches_some w.heap.size (j * 5) b (o + j * 5) (n - j) (n - j) cb _ wr r1 r2 (by omega) (Nat.le_refl _) hcb (Nat.lt_trans (h.apart (by omega)) h.lt) (Nat.lt_of_lt_of_le (h.old (by omega)) h.bel.size)
  · rw [show n - j = 0 by omega]
    exact matches_none a ai 0 cb wr
end Go.Proofs.Ybulkazky.Swaps
