/-
  A SLICE OF SM THAT CAME IN, OPENED.
-/
import Derived.Test.Qxb6604243aMarks
import Derived.ProofKit
import Derived.OpenShut
import Derived.Deep.Slices
import Derived.Deep.SlicePairs
namespace Go.Proofs.Qxb6604243a
open Go.RowKit Go.ChangeShapes Go.WideShapes Go.Deep

theorem Try.cells75 : Try.prog.cellsOf 75 = 5 := by kernel_rfl
theorem Try.sm22 : Try.prog.cellsOf 22 = 1 := by kernel_rfl
theorem Try.sm9 : Try.prog.cellsOf 9 = 1 := by kernel_rfl

/-- One mark, out of its reading. -/
theorem open_sm {H : Type} {enc : TypeId × Value → H} {W : World} {n : Nat} {cs : List Value} {y : DataW H × List MemPlace} (h : DataW.trod enc Try.prog W 0 (fun _ => true) true n 75 cs = some y) :
    ∃ x : Mk, cs = [.string x.id, .int .u64 x.seq, .int .u64 x.index, .int .u64 x.term, .int .u64 x.time] ∧ x.id.size ≤ 9223372036854775807 := by
  obtain ⟨xs, k, _, _, hl, hlen, hfs⟩ := DataW.trod_struct Try.underlying75 h
  rw [Try.cells75] at hl
  match cs, hl with
  | [c0, c1, c2, c3, c4], _ =>
    have get : ∀ i, i < 5 → ∃ y, xs[i]? = some y := fun i hi => ⟨xs[i]'(by rw [hlen]; exact hi), List.getElem?_eq_getElem _⟩
    obtain ⟨y0, hy0⟩ := get 0 (by omega)
    obtain ⟨y1, hy1⟩ := get 1 (by omega)
    obtain ⟨y2, hy2⟩ := get 2 (by omega)
    obtain ⟨y3, hy3⟩ := get 3 (by omega)
    obtain ⟨y4, hy4⟩ := get 4 (by omega)
    have g0 : DataW.trod enc Try.prog W 0 (fun _ => true) true k 9 [c0] = some y0 := by simpa [Try.sm9] using (hfs 0 _ rfl).trans hy0
    have g1 : DataW.trod enc Try.prog W 0 (fun _ => true) true k 22 [c1] = some y1 := by simpa [Try.sm22] using (hfs 1 _ rfl).trans hy1
    have g2 : DataW.trod enc Try.prog W 0 (fun _ => true) true k 22 [c2] = some y2 := by simpa [Try.sm22] using (hfs 2 _ rfl).trans hy2
    have g3 : DataW.trod enc Try.prog W 0 (fun _ => true) true k 22 [c3] = some y3 := by simpa [Try.sm22] using (hfs 3 _ rfl).trans hy3
    have g4 : DataW.trod enc Try.prog W 0 (fun _ => true) true k 22 [c4] = some y4 := by simpa [Try.sm22] using (hfs 4 _ rfl).trans hy4
    obtain ⟨s0, e0, _, hs⟩ := DataW.trod_string Try.underlying9 g0
    obtain ⟨x1, e1, _, _⟩ := DataW.trod_int Try.underlying22 g1
    obtain ⟨x2, e2, _, _⟩ := DataW.trod_int Try.underlying22 g2
    obtain ⟨x3, e3, _, _⟩ := DataW.trod_int Try.underlying22 g3
    obtain ⟨x4, e4, _, _⟩ := DataW.trod_int Try.underlying22 g4
    simp only [List.cons.injEq, and_true] at e0 e1 e2 e3 e4
    subst e0 e1 e2 e3 e4
    unfold maxLen at hs
    exact ⟨⟨s0, x1, x2, x3, x4⟩, rfl, by simpa using hs⟩

def noMk : Mk := ⟨ByteArray.empty, 0, 0, 0, 0⟩

theorem open_sms {H : Type} {enc : TypeId × Value → H} {W : World} {r : Reach} {base : Nat} {v : Value} {d : DataW H} {p : List MemPlace} (hv : Value.okWide Try.prog W r base 65 v) (h : DataW.Trod enc Try.prog W 0 (fun _ => true) true 65 v d p) :
    ∃ ad m cap b off F, v = .slice ad m cap ∧ MksAt W ad m b off F := by
  obtain ⟨ad, m, cap, rfl⟩ := okWide_slice Try.underlying65 hv
  obtain ⟨fuel, hf⟩ := h
  rcases open_slice Try.underlying65 hf with ⟨hcs, _⟩ | ⟨a, len, cap', mm, n, Dd, Pl, hcs, _, hl, _, hm, _, hx⟩
  · simp [Value.cells] at hcs
    obtain ⟨rfl, rfl, rfl⟩ := hcs
    exact ⟨none, 0, 0, 0, 0, fun _ => noMk, rfl, MksAt.nil _ _ _ _⟩
  · simp [Value.cells] at hcs
    obtain ⟨rfl, rfl, rfl⟩ := hcs
    simp only [if_true] at hm
    by_cases h0 : m = 0
    · subst h0
      exact ⟨some a, 0, cap, 0, 0, fun _ => noMk, rfl, fun hh => absurd hh (Nat.lt_irrefl _), (fun hh => by cases hh), fun _ hi => absurd hi (Nat.not_lt_zero _), fun _ hi => absurd hi (Nat.not_lt_zero _)⟩
    · have each : ∀ i, i < m → ∃ q : Mk, (W.cell? (a.add (i * 5)) = some (.string q.id) ∧ W.cell? (a.add (i * 5 + 1)) = some (.int .u64 q.seq) ∧ W.cell? (a.add (i * 5 + 2)) = some (.int .u64 q.index) ∧ W.cell? (a.add (i * 5 + 3)) = some (.int .u64 q.term) ∧ W.cell? (a.add (i * 5 + 4)) = some (.int .u64 q.time)) ∧ q.id.size ≤ 9223372036854775807 := by
        intro i hi
        obtain ⟨cs', h1, h2⟩ := hx i (by omega)
        rw [Try.cells75] at h1
        obtain ⟨_, _, hcell⟩ := World.cells?_some h1
        obtain ⟨x, rfl, hs⟩ := open_sm h2
        have e0 := hcell 0 (by omega)
        have e1 := hcell 1 (by omega)
        have e2 := hcell 2 (by omega)
        have e3 := hcell 3 (by omega)
        have e4 := hcell 4 (by omega)
        rw [add_add] at e0 e1 e2 e3 e4
        exact ⟨x, ⟨by simpa using e0, by simpa using e1, by simpa using e2, by simpa using e3, by simpa using e4⟩, hs⟩
      have each' : ∃ q : Nat → Mk, ∀ i, i < m → (W.cell? (a.add (i * 5)) = some (.string (q i).id) ∧ W.cell? (a.add (i * 5 + 1)) = some (.int .u64 (q i).seq) ∧ W.cell? (a.add (i * 5 + 2)) = some (.int .u64 (q i).index) ∧ W.cell? (a.add (i * 5 + 3)) = some (.int .u64 (q i).term) ∧ W.cell? (a.add (i * 5 + 4)) = some (.int .u64 (q i).time)) ∧ (q i).id.size ≤ 9223372036854775807 := by
        refine ⟨fun i => if hi : i < m then Classical.choose (each i hi) else noMk, fun i hi => ?_⟩
        simp only [hi, dif_pos]
        exact Classical.choose_spec (each i hi)
      obtain ⟨q, hq⟩ := each'
      obtain ⟨b, off, spot⟩ := a
      have hspot : spot = none := by simpa [Addr.add] using World.cell?_spot (hq 0 (by omega)).1.1
      subst hspot
      refine ⟨_, m, cap, b, off, q, rfl, fun _ => rfl, (fun hh => by cases hh), fun i hi => ?_, fun i hi => (hq i hi).2⟩
      obtain ⟨⟨g1, g2, g3, g4, g5⟩, _⟩ := hq i hi
      rw [add_plain] at g1 g2 g3 g4 g5
      exact ⟨g1, g2, g3, g4, g5⟩

end Go.Proofs.Qxb6604243a
