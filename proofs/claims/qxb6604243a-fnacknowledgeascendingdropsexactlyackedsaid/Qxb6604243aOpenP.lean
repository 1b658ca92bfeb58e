/-
  A Progress THAT CAME IN, OPENED: its thirteen cells and the spans that it leads to.
-/
import Derived.Test.Qxb6604243aSpan
import Derived.ProofKit
import Derived.OpenShut
import Derived.Deep.SlicePairs
import Derived.Lib.SmallJoins
namespace Go.Proofs.Qxb6604243a
open Go.RowKit Go.ChangeShapes Go.WideShapes Go.Deep

theorem array13 {α : Type} {cs : Array α} (h : cs.size = 13) : ∃ c0 c1 c2 c3 c4 c5 c6 c7 c8 c9 c10 c11 c12, cs = #[c0, c1, c2, c3, c4, c5, c6, c7, c8, c9, c10, c11, c12] := by
  obtain ⟨l⟩ := cs
  match l, h with
  | [c0, c1, c2, c3, c4, c5, c6, c7, c8, c9, c10, c11, c12], _ => exact ⟨c0, c1, c2, c3, c4, c5, c6, c7, c8, c9, c10, c11, c12, rfl⟩

theorem Try.cells25 : Try.prog.cellsOf 25 = 13 := by kernel_rfl
theorem Try.cells22 : Try.prog.cellsOf 22 = 1 := by kernel_rfl
theorem Try.cells4 : Try.prog.cellsOf 4 = 1 := by kernel_rfl
theorem Try.cells3 : Try.prog.cellsOf 3 = 1 := by kernel_rfl
theorem Try.cells23 : Try.prog.cellsOf 23 = 1 := by kernel_rfl
theorem Try.cells34 : Try.prog.cellsOf 34 = 2 := by kernel_rfl

theorem open_spans {H : Type} {enc : TypeId × Value → H} {W : World} {fuel : Nat} {c : Value} {x : DataW H × List MemPlace} (h : DataW.trod enc Try.prog W 0 (fun _ => true) true fuel 23 [c] = some x) :
    ∃ ad m cap b off E B, c = .slice ad m cap ∧ SpansAt W ad m b off E B := by
  rcases open_slice_pairs Try.underlying23 Try.underlying34 Try.cells34 rfl rfl Try.cells22 Try.cells3 h with ⟨hcs, _⟩ | ⟨a, len, cap, m, n, V0, V1, D0, D1, P0, P1, hcs, _, hl, _, hm, _, hx⟩
  · simp at hcs
    subst hcs
    exact ⟨none, 0, 0, 0, 0, fun _ => 0, fun _ => 0, rfl, SpansAt.nil _ _ _ _ _⟩
  · simp at hcs
    subst hcs
    simp only [if_true] at hm
    by_cases h0 : len = 0
    · subst h0
      exact ⟨some a, 0, cap, 0, 0, fun _ => 0, fun _ => 0, rfl, fun hh => absurd hh (Nat.lt_irrefl _), (fun hh => by cases hh), fun _ hi => absurd hi (Nat.not_lt_zero _)⟩
    · obtain ⟨b, off, spot⟩ := a
      have hspot : spot = none := by simpa [Addr.add] using World.cell?_spot (hx 0 (by omega)).1
      subst hspot
      refine ⟨_, len, cap, b, off, fun i => intOf (V0 i), fun i => intOf (V1 i), rfl, fun _ => rfl, (fun hh => by cases hh), fun i hi => ?_⟩
      obtain ⟨g1, g2, g3, g4⟩ := hx i (by omega)
      obtain ⟨n1, e1, _, _⟩ := DataW.trod_int Try.underlying22 g3
      obtain ⟨n2, e2, _, _⟩ := DataW.trod_int Try.underlying3 g4
      simp at e1 e2
      rw [add_plain] at g1 g2
      rw [e1] at g1
      rw [e2] at g2
      dsimp only
      rw [e1, e2]
      exact ⟨g1, g2⟩

theorem open_prog {H : Type} {enc : TypeId × Value → H} {W : World} {r : Reach} {base : Nat} {v : Value} {d : DataW H} {p : List MemPlace} (hv : Value.okWide Try.prog W r base 25 v) (h : DataW.Trod enc Try.prog W 0 (fun _ => true) true 25 v d p) :
    ∃ x0 x1 x2 x3 b4 b5 ad m cap x7 x8 x9 x10 x11 x12 b off E B, v = .agg #[.int .u64 x0, .int .u64 x1, .int .u64 x2, .int .u64 x3, .bool b4, .bool b5, .slice ad m cap, .int .i64 x7, .int .u64 x8, .int .u64 x9, .int .u64 x10, .int .u64 x11, .int .u64 x12] ∧ wrap64 x7 = x7 ∧ SpansAt W ad m b off E B := by
  obtain ⟨cs, rfl, hsz⟩ := okWide_struct Try.underlying25 hv
  obtain ⟨c0, c1, c2, c3, c4, c5, c6, c7, c8, c9, c10, c11, c12, rfl⟩ := array13 (hsz.trans Try.cells25)
  obtain ⟨fuel, hf⟩ := h
  obtain ⟨xs, n, _, _, _, hlen, hfs⟩ := DataW.trod_struct Try.underlying25 hf
  have get : ∀ i, i < 13 → ∃ y, xs[i]? = some y := fun i hi => ⟨xs[i]'(by rw [hlen]; exact hi), List.getElem?_eq_getElem _⟩
  obtain ⟨y0, hy0⟩ := get 0 (by omega)
  have g0 : DataW.trod enc Try.prog W 0 (fun _ => true) true n 22 [c0] = some y0 := by simpa [Try.cells22, Value.cells] using (hfs 0 _ rfl).trans hy0
  obtain ⟨y1, hy1⟩ := get 1 (by omega)
  have g1 : DataW.trod enc Try.prog W 0 (fun _ => true) true n 22 [c1] = some y1 := by simpa [Try.cells22, Value.cells] using (hfs 1 _ rfl).trans hy1
  obtain ⟨y2, hy2⟩ := get 2 (by omega)
  have g2 : DataW.trod enc Try.prog W 0 (fun _ => true) true n 22 [c2] = some y2 := by simpa [Try.cells22, Value.cells] using (hfs 2 _ rfl).trans hy2
  obtain ⟨y3, hy3⟩ := get 3 (by omega)
  have g3 : DataW.trod enc Try.prog W 0 (fun _ => true) true n 22 [c3] = some y3 := by simpa [Try.cells22, Value.cells] using (hfs 3 _ rfl).trans hy3
  obtain ⟨y4, hy4⟩ := get 4 (by omega)
  have g4 : DataW.trod enc Try.prog W 0 (fun _ => true) true n 4 [c4] = some y4 := by simpa [Try.cells4, Value.cells] using (hfs 4 _ rfl).trans hy4
  obtain ⟨y5, hy5⟩ := get 5 (by omega)
  have g5 : DataW.trod enc Try.prog W 0 (fun _ => true) true n 4 [c5] = some y5 := by simpa [Try.cells4, Value.cells] using (hfs 5 _ rfl).trans hy5
  obtain ⟨y6, hy6⟩ := get 6 (by omega)
  have g6 : DataW.trod enc Try.prog W 0 (fun _ => true) true n 23 [c6] = some y6 := by simpa [Try.cells23, Value.cells] using (hfs 6 _ rfl).trans hy6
  obtain ⟨y7, hy7⟩ := get 7 (by omega)
  have g7 : DataW.trod enc Try.prog W 0 (fun _ => true) true n 3 [c7] = some y7 := by simpa [Try.cells3, Value.cells] using (hfs 7 _ rfl).trans hy7
  obtain ⟨y8, hy8⟩ := get 8 (by omega)
  have g8 : DataW.trod enc Try.prog W 0 (fun _ => true) true n 22 [c8] = some y8 := by simpa [Try.cells22, Value.cells] using (hfs 8 _ rfl).trans hy8
  obtain ⟨y9, hy9⟩ := get 9 (by omega)
  have g9 : DataW.trod enc Try.prog W 0 (fun _ => true) true n 22 [c9] = some y9 := by simpa [Try.cells22, Value.cells] using (hfs 9 _ rfl).trans hy9
  obtain ⟨y10, hy10⟩ := get 10 (by omega)
  have g10 : DataW.trod enc Try.prog W 0 (fun _ => true) true n 22 [c10] = some y10 := by simpa [Try.cells22, Value.cells] using (hfs 10 _ rfl).trans hy10
  obtain ⟨y11, hy11⟩ := get 11 (by omega)
  have g11 : DataW.trod enc Try.prog W 0 (fun _ => true) true n 22 [c11] = some y11 := by simpa [Try.cells22, Value.cells] using (hfs 11 _ rfl).trans hy11
  obtain ⟨y12, hy12⟩ := get 12 (by omega)
  have g12 : DataW.trod enc Try.prog W 0 (fun _ => true) true n 22 [c12] = some y12 := by simpa [Try.cells22, Value.cells] using (hfs 12 _ rfl).trans hy12
  obtain ⟨x0, e0, _, _⟩ := DataW.trod_int Try.underlying22 g0
  obtain ⟨x1, e1, _, _⟩ := DataW.trod_int Try.underlying22 g1
  obtain ⟨x2, e2, _, _⟩ := DataW.trod_int Try.underlying22 g2
  obtain ⟨x3, e3, _, _⟩ := DataW.trod_int Try.underlying22 g3
  obtain ⟨b4, e4, _⟩ := DataW.trod_bool Try.underlying4 g4
  obtain ⟨b5, e5, _⟩ := DataW.trod_bool Try.underlying4 g5
  obtain ⟨ad, m, cap, b, off, E, B, e6, hS⟩ := open_spans g6
  obtain ⟨x7, e7, _, w7⟩ := DataW.trod_int Try.underlying3 g7
  obtain ⟨x8, e8, _, _⟩ := DataW.trod_int Try.underlying22 g8
  obtain ⟨x9, e9, _, _⟩ := DataW.trod_int Try.underlying22 g9
  obtain ⟨x10, e10, _, _⟩ := DataW.trod_int Try.underlying22 g10
  obtain ⟨x11, e11, _, _⟩ := DataW.trod_int Try.underlying22 g11
  obtain ⟨x12, e12, _, _⟩ := DataW.trod_int Try.underlying22 g12
  simp only [List.cons.injEq, and_true] at e0 e1 e2 e3 e4 e5 e7 e8 e9 e10 e11 e12
  subst e0 e1 e2 e3 e4 e5 e6 e7 e8 e9 e10 e11 e12
  refine ⟨x0, x1, x2, x3, b4, b5, ad, m, cap, x7, x8, x9, x10, x11, x12, b, off, E, B, rfl, ?_, hS⟩
  have := bounds_i64 w7
  unfold wrap64
  omega

end Go.Proofs.Qxb6604243a
