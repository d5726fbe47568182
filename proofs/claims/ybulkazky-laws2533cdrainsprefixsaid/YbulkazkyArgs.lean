import Derived.Test.YbulkazkyRows
import Derived.Test.YbulkazkySwaps
import Derived.WalkKit
import Derived.ProofKit
import Derived.OpenShut
import Derived.Deep.Slices
namespace Go.Proofs.Ybulkazky.Swaps
open Go.ChangeShapes Go.WideShapes Go.ChangeAt Go.RowKit
set_option linter.unusedVariables false
theorem cells46 : Yba.prog.cellsOf 46 = 5 := by kernel_rfl
theorem cells3 : Yba.prog.cellsOf 3 = 1 := by kernel_rfl
theorem cells9 : Yba.prog.cellsOf 9 = 1 := by kernel_rfl
theorem cells4 : Yba.prog.cellsOf 4 = 1 := by kernel_rfl

theorem open_sw {H : Type} {enc : TypeId × Value → H} {w : World} {n base : Nat} {spare : Nat → Bool} {held : Bool} {cs : List Value} {x : DataW H × List MemPlace}
    (h : DataW.trod enc Yba.prog w base spare held n 46 cs = some x) : ∃ f t s l c, cs = [.int .i64 f, .int .i64 t, .string s, .bool l, .int .i64 c] := by
  obtain ⟨xs, m, _, _, hl, hxl, hf⟩ := DataW.trod_struct Yba.underlying46 h
  rw [cells46] at hl
  match cs, hl with
  | [c0, c1, c2, c3, c4], _ =>
    match xs, hxl with
    | [y0, y1, y2, y3, y4], _ =>
      have h0 := hf 0 _ rfl
      have h1 := hf 1 _ rfl
      have h2 := hf 2 _ rfl
      have h3 := hf 3 _ rfl
      have h4 := hf 4 _ rfl
      simp [cells3, cells9, cells4] at h0 h1 h2 h3 h4
      obtain ⟨f, e0, _⟩ := DataW.trod_int Yba.underlying3 h0
      obtain ⟨t, e1, _⟩ := DataW.trod_int Yba.underlying3 h1
      obtain ⟨s, e2, _⟩ := DataW.trod_string Yba.underlying9 h2
      obtain ⟨l, e3, _⟩ := DataW.trod_bool Yba.underlying4 h3
      obtain ⟨c, e4, _⟩ := DataW.trod_int Yba.underlying3 h4
      simp at e0 e1 e2 e3 e4
      exact ⟨f, t, s, l, c, by rw [e0, e1, e2, e3, e4]⟩

theorem lt_of_cell {w : World} {a : Addr} {v : Value} (h : w.cell? a = some v) : a.block < w.heap.size := by
  by_cases hb : a.block < w.heap.size
  · exact hb
  · simp [World.cell?, Array.getElem?_eq_none (by omega : w.heap.size ≤ a.block)] at h

/-- The law's slice, opened. -/
theorem arg_of {H : Type} {enc : TypeId × Value → H} {W : World} {a : Option Addr} {len cap : Nat} {d : DataW H} {p : List MemPlace}
    (h : DataW.Trod enc Yba.prog W 0 (fun _ => true) true 28 (.slice a len cap) d p) : ∃ D, Arg W a len cap D := by
  obtain ⟨fuel, hf⟩ := h
  rcases Go.Deep.open_slice Yba.underlying28 hf with ⟨hcs, _⟩ | ⟨x, l, c, m, n, D, Pl, hcs, _, hl, hm, hmm, _, hx⟩
  · simp [Value.cells] at hcs
    obtain ⟨rfl, rfl, rfl⟩ := hcs
    exact ⟨fun _ => ⟨0, 0, ⟨#[]⟩, false, 0⟩, Nat.le_refl _, by simp, .inl rfl⟩
  · simp [Value.cells] at hcs
    obtain ⟨rfl, rfl, rfl⟩ := hcs
    simp only [if_true] at hmm
    subst hmm
    rw [cells46] at hx
    by_cases h0 : len = 0
    · exact ⟨fun _ => ⟨0, 0, ⟨#[]⟩, false, 0⟩, hl, hm, .inl h0⟩
    · obtain ⟨E, hE⟩ := Go.Deep.choose_lt (α := Int × Int × ByteArray × Bool × Int) (p := fun i y => ∀ j, j < 5 → W.cell? ((x.add (i * 5)).add j) = ([.int .i64 y.1, .int .i64 y.2.1, .string y.2.2.1, .bool y.2.2.2.1, .int .i64 y.2.2.2.2] : List Value)[j]?) (fun i hi => by
        obtain ⟨cs', h1, h2⟩ := hx i hi
        obtain ⟨f, t, s, l, c, rfl⟩ := open_sw h2
        exact ⟨(f, t, s, l, c), (World.cells?_some h1).2.2⟩)
      obtain ⟨b, o, spot⟩ := x
      have hspot : spot = none := by
        have h1 : W.cell? ⟨b, o, spot⟩ = some (.int .i64 (E 0).1) := by simpa [Addr.add] using hE 0 (by omega) 0 (by omega)
        exact World.cell?_spot h1
      subst hspot
      have hE2 : ∀ i, i < m → ∀ j, j < 5 → W.cell? ⟨b, o + i * 5 + j, none⟩ = ([.int .i64 (E i).1, .int .i64 (E i).2.1, .string (E i).2.2.1, .bool (E i).2.2.2.1, .int .i64 (E i).2.2.2.2] : List Value)[j]? := fun i hi j hj => by
        have := hE i hi j hj
        rw [Go.Deep.add_add, Go.WideShapes.add_plain] at this
        rw [Nat.add_assoc]
        exact this
      refine ⟨fun i => ⟨(E i).1, (E i).2.1, (E i).2.2.1, (E i).2.2.2.1, (E i).2.2.2.2⟩, hl, hm, .inr ⟨b, o, rfl, ?_, ?_⟩⟩
      · exact lt_of_cell (hE2 0 (by omega) 0 (by omega))
      · exact ⟨fun i hi => hE2 i (by omega) 0 (by omega), fun i hi => hE2 i (by omega) 1 (by omega), fun i hi => hE2 i (by omega) 2 (by omega), fun i hi => hE2 i (by omega) 3 (by omega), fun i hi => hE2 i (by omega) 4 (by omega)⟩
end Go.Proofs.Ybulkazky.Swaps
