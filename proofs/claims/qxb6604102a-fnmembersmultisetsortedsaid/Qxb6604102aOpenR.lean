/-
  A SLICE OF Repl THAT CAME IN, OPENED.
-/
import Derived.Test.Qxb6604102aRepl
import Derived.ProofKit
import Derived.OpenShut
import Derived.Deep.Slices
import Derived.Deep.SlicePairs
namespace Go.Proofs.Qxb6604102a
open Go.RowKit Go.ChangeShapes Go.WideShapes Go.Deep

theorem Try.cells45 : Try.prog.cellsOf 45 = 3 := by kernel_rfl
theorem Try.rp22 : Try.prog.cellsOf 22 = 1 := by kernel_rfl
theorem Try.rp31 : Try.prog.cellsOf 31 = 1 := by kernel_rfl

def RpOk (x : Rp) : Prop := (0 ≤ x.rd ∧ x.rd ≤ 4294967295) ∧ 0 ≤ x.sp ∧ x.sp ≤ 4294967295

/-- One replacement, out of its reading. -/
theorem open_rp {H : Type} {enc : TypeId × Value → H} {W : World} {n : Nat} {cs : List Value} {y : DataW H × List MemPlace} (h : DataW.trod enc Try.prog W 0 (fun _ => true) true n 45 cs = some y) :
    ∃ x : Rp, cs = [.int .u32 x.rd, .int .u32 x.sp, .int .u64 x.sq] ∧ RpOk x := by
  obtain ⟨xs, k, _, _, hl, hlen, hfs⟩ := DataW.trod_struct Try.underlying45 h
  rw [Try.cells45] at hl
  match cs, hl with
  | [c0, c1, c2], _ =>
    have get : ∀ i, i < 3 → ∃ y, xs[i]? = some y := fun i hi => ⟨xs[i]'(by rw [hlen]; exact hi), List.getElem?_eq_getElem _⟩
    obtain ⟨y0, hy0⟩ := get 0 (by omega)
    obtain ⟨y1, hy1⟩ := get 1 (by omega)
    obtain ⟨y2, hy2⟩ := get 2 (by omega)
    have g0 : DataW.trod enc Try.prog W 0 (fun _ => true) true k 31 [c0] = some y0 := by simpa [Try.rp31] using (hfs 0 _ rfl).trans hy0
    have g1 : DataW.trod enc Try.prog W 0 (fun _ => true) true k 31 [c1] = some y1 := by simpa [Try.rp31] using (hfs 1 _ rfl).trans hy1
    have g2 : DataW.trod enc Try.prog W 0 (fun _ => true) true k 22 [c2] = some y2 := by simpa [Try.rp22] using (hfs 2 _ rfl).trans hy2
    obtain ⟨x0, e0, _, w0⟩ := DataW.trod_int Try.underlying31 g0
    obtain ⟨x1, e1, _, w1⟩ := DataW.trod_int Try.underlying31 g1
    obtain ⟨x2, e2, _, _⟩ := DataW.trod_int Try.underlying22 g2
    simp only [List.cons.injEq, and_true] at e0 e1 e2
    subst e0 e1 e2
    have b0 := bounds_u32 w0
    have b1 := bounds_u32 w1
    exact ⟨⟨x0, x1, x2⟩, rfl, ⟨b0.1, by have := b0.2; omega⟩, b1.1, by have := b1.2; omega⟩

def noRp : Rp := ⟨0, 0, 0⟩

theorem open_rps {H : Type} {enc : TypeId × Value → H} {W : World} {r : Reach} {base : Nat} {v : Value} {d : DataW H} {p : List MemPlace} (hv : Value.okWide Try.prog W r base 35 v) (h : DataW.Trod enc Try.prog W 0 (fun _ => true) true 35 v d p) :
    ∃ ad m cap b off F, v = .slice ad m cap ∧ RpAt W ad m b off F := by
  obtain ⟨ad, m, cap, rfl⟩ := okWide_slice Try.underlying35 hv
  obtain ⟨fuel, hf⟩ := h
  rcases open_slice Try.underlying35 hf with ⟨hcs, _⟩ | ⟨a, len, cap', mm, n, Dd, Pl, hcs, _, hl, _, hm, _, hx⟩
  · simp [Value.cells] at hcs
    obtain ⟨rfl, rfl, rfl⟩ := hcs
    exact ⟨none, 0, 0, 0, 0, fun _ => noRp, rfl, RpAt.nil _ _ _ _⟩
  · simp [Value.cells] at hcs
    obtain ⟨rfl, rfl, rfl⟩ := hcs
    simp only [if_true] at hm
    by_cases h0 : m = 0
    · subst h0
      exact ⟨some a, 0, cap, 0, 0, fun _ => noRp, rfl, fun hh => absurd hh (Nat.lt_irrefl _), (fun hh => by cases hh), fun _ hi => absurd hi (Nat.not_lt_zero _), fun _ hi => absurd hi (Nat.not_lt_zero _)⟩
    · have each : ∀ i, i < m → ∃ q : Rp, (W.cell? (a.add (i * 3)) = some (.int .u32 q.rd) ∧ W.cell? (a.add (i * 3 + 1)) = some (.int .u32 q.sp) ∧ W.cell? (a.add (i * 3 + 2)) = some (.int .u64 q.sq)) ∧ RpOk q := by
        intro i hi
        obtain ⟨cs', h1, h2⟩ := hx i (by omega)
        rw [Try.cells45] at h1
        obtain ⟨_, _, hcell⟩ := World.cells?_some h1
        obtain ⟨x, rfl, hs⟩ := open_rp h2
        have e0 := hcell 0 (by omega)
        have e1 := hcell 1 (by omega)
        have e2 := hcell 2 (by omega)
        rw [add_add] at e0 e1 e2
        exact ⟨x, ⟨by simpa using e0, by simpa using e1, by simpa using e2⟩, hs⟩
      have each' : ∃ q : Nat → Rp, ∀ i, i < m → (W.cell? (a.add (i * 3)) = some (.int .u32 (q i).rd) ∧ W.cell? (a.add (i * 3 + 1)) = some (.int .u32 (q i).sp) ∧ W.cell? (a.add (i * 3 + 2)) = some (.int .u64 (q i).sq)) ∧ RpOk (q i) := by
        refine ⟨fun i => if hi : i < m then Classical.choose (each i hi) else noRp, fun i hi => ?_⟩
        simp only [hi, dif_pos]
        exact Classical.choose_spec (each i hi)
      obtain ⟨q, hq⟩ := each'
      obtain ⟨b, off, spot⟩ := a
      have hspot : spot = none := by simpa [Addr.add] using World.cell?_spot (hq 0 (by omega)).1.1
      subst hspot
      refine ⟨_, m, cap, b, off, q, rfl, fun _ => rfl, (fun hh => by cases hh), fun i hi => ?_, fun i hi => (hq i hi).2⟩
      obtain ⟨⟨g1, g2, g3⟩, _⟩ := hq i hi
      rw [add_plain] at g1 g2 g3
      exact ⟨g1, g2, g3⟩

end Go.Proofs.Qxb6604102a
