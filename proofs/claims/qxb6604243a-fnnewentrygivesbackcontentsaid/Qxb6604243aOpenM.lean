/-
  A SLICE OF LMember THAT CAME IN, OPENED; a slice of bytes.
-/
import Derived.Test.Qxb6604243aMem
import Derived.ProofKit
import Derived.OpenShut
import Derived.Deep.Slices
import Derived.Deep.SlicePairs
namespace Go.Proofs.Qxb6604243a
open Go.RowKit Go.ChangeShapes Go.WideShapes Go.Deep

theorem Try.cells64 : Try.prog.cellsOf 64 = 4 := by kernel_rfl
theorem Try.one22 : Try.prog.cellsOf 22 = 1 := by kernel_rfl
theorem Try.one9 : Try.prog.cellsOf 9 = 1 := by kernel_rfl
theorem Try.one4 : Try.prog.cellsOf 4 = 1 := by kernel_rfl
theorem Try.one5 : Try.prog.cellsOf 5 = 1 := by kernel_rfl


/-- One member, out of its reading. -/
theorem open_member {H : Type} {enc : TypeId × Value → H} {W : World} {n : Nat} {cs : List Value} {y : DataW H × List MemPlace} (h : DataW.trod enc Try.prog W 0 (fun _ => true) true n 64 cs = some y) :
    ∃ (x0 : Int) (s1 : ByteArray) (b2 : Bool) (x3 : Int), cs = [.int .u64 x0, .string s1, .bool b2, .int .u64 x3] := by
  obtain ⟨xs, k, _, _, hl, hlen, hfs⟩ := DataW.trod_struct Try.underlying64 h
  rw [Try.cells64] at hl
  match cs, hl with
  | [c0, c1, c2, c3], _ =>
    have get : ∀ i, i < 4 → ∃ y, xs[i]? = some y := fun i hi => ⟨xs[i]'(by rw [hlen]; exact hi), List.getElem?_eq_getElem _⟩
    obtain ⟨y0, hy0⟩ := get 0 (by omega)
    obtain ⟨y1, hy1⟩ := get 1 (by omega)
    obtain ⟨y2, hy2⟩ := get 2 (by omega)
    obtain ⟨y3, hy3⟩ := get 3 (by omega)
    have g0 : DataW.trod enc Try.prog W 0 (fun _ => true) true k 22 [c0] = some y0 := by simpa [Try.one22] using (hfs 0 _ rfl).trans hy0
    have g1 : DataW.trod enc Try.prog W 0 (fun _ => true) true k 9 [c1] = some y1 := by simpa [Try.one9] using (hfs 1 _ rfl).trans hy1
    have g2 : DataW.trod enc Try.prog W 0 (fun _ => true) true k 4 [c2] = some y2 := by simpa [Try.one4] using (hfs 2 _ rfl).trans hy2
    have g3 : DataW.trod enc Try.prog W 0 (fun _ => true) true k 22 [c3] = some y3 := by simpa [Try.one22] using (hfs 3 _ rfl).trans hy3
    obtain ⟨x0, e0, _, _⟩ := DataW.trod_int Try.underlying22 g0
    obtain ⟨s1, e1, _, _⟩ := DataW.trod_string Try.underlying9 g1
    obtain ⟨b2, e2, _⟩ := DataW.trod_bool Try.underlying4 g2
    obtain ⟨x3, e3, _, _⟩ := DataW.trod_int Try.underlying22 g3
    simp only [List.cons.injEq, and_true] at e0 e1 e2 e3
    subst e0 e1 e2 e3
    exact ⟨x0, s1, b2, x3, rfl⟩

theorem open_members {H : Type} {enc : TypeId × Value → H} {W : World} {r : Reach} {base : Nat} {v : Value} {d : DataW H} {p : List MemPlace} (hv : Value.okWide Try.prog W r base 37 v) (h : DataW.Trod enc Try.prog W 0 (fun _ => true) true 37 v d p) :
    ∃ ad m cap b off I A V D, v = .slice ad m cap ∧ MembersAt W ad m b off I A V D := by
  obtain ⟨ad, m, cap, rfl⟩ := okWide_slice Try.underlying37 hv
  obtain ⟨fuel, hf⟩ := h
  rcases open_slice Try.underlying37 hf with ⟨hcs, _⟩ | ⟨a, len, cap', mm, n, Dd, Pl, hcs, _, hl, _, hm, _, hx⟩
  · simp [Value.cells] at hcs
    obtain ⟨rfl, rfl, rfl⟩ := hcs
    exact ⟨none, 0, 0, 0, 0, fun _ => 0, fun _ => ByteArray.empty, fun _ => false, fun _ => 0, rfl, MembersAt.nil _ _ _ _ _ _ _⟩
  · simp [Value.cells] at hcs
    obtain ⟨rfl, rfl, rfl⟩ := hcs
    simp only [if_true] at hm
    by_cases h0 : m = 0
    · subst h0
      exact ⟨some a, 0, cap, 0, 0, fun _ => 0, fun _ => ByteArray.empty, fun _ => false, fun _ => 0, rfl, fun hh => absurd hh (Nat.lt_irrefl _), (fun hh => by cases hh), fun _ hi => absurd hi (Nat.not_lt_zero _)⟩
    · have each : ∀ i, i < m → ∃ q : Int × ByteArray × Bool × Int, W.cell? (a.add (i * 4)) = some (.int .u64 q.1) ∧ W.cell? (a.add (i * 4 + 1)) = some (.string q.2.1) ∧ W.cell? (a.add (i * 4 + 2)) = some (.bool q.2.2.1) ∧ W.cell? (a.add (i * 4 + 3)) = some (.int .u64 q.2.2.2) := by
        intro i hi
        obtain ⟨cs', h1, h2⟩ := hx i (by omega)
        rw [Try.cells64] at h1
        obtain ⟨_, _, hcell⟩ := World.cells?_some h1
        obtain ⟨x0, s1, b2, x3, rfl⟩ := open_member h2
        have e0 := hcell 0 (by omega)
        have e1 := hcell 1 (by omega)
        have e2 := hcell 2 (by omega)
        have e3 := hcell 3 (by omega)
        rw [add_add] at e0 e1 e2 e3
        exact ⟨(x0, s1, b2, x3), by simpa using e0, by simpa using e1, by simpa using e2, by simpa using e3⟩
      obtain ⟨q, hq⟩ := choose_lt each
      obtain ⟨b, off, spot⟩ := a
      have hspot : spot = none := by simpa [Addr.add] using World.cell?_spot (hq 0 (by omega)).1
      subst hspot
      refine ⟨_, m, cap, b, off, fun i => (q i).1, fun i => (q i).2.1, fun i => (q i).2.2.1, fun i => (q i).2.2.2, rfl, fun _ => rfl, (fun hh => by cases hh), fun i hi => ?_⟩
      obtain ⟨g1, g2, g3, g4⟩ := hq i hi
      rw [add_plain] at g1 g2 g3 g4
      exact ⟨g1, g2, g3, g4⟩

theorem open_bytes {H : Type} {enc : TypeId × Value → H} {W : World} {r : Reach} {base : Nat} {v : Value} {d : DataW H} {p : List MemPlace} (hv : Value.okWide Try.prog W r base 36 v) (h : DataW.Trod enc Try.prog W 0 (fun _ => true) true 36 v d p) :
    ∃ ad m cap b off Z, v = .slice ad m cap ∧ BytesAt W ad m b off Z := by
  obtain ⟨ad, m, cap, rfl⟩ := okWide_slice Try.underlying36 hv
  obtain ⟨fuel, hf⟩ := h
  rcases open_ints Try.underlying36 Try.underlying5 Try.one5 hf with ⟨hcs, _⟩ | ⟨x, l, c, zs, hcs, _, hl, _, hz, _, hcell, _⟩
  · simp [Value.cells] at hcs
    obtain ⟨rfl, rfl, rfl⟩ := hcs
    exact ⟨none, 0, 0, 0, 0, fun _ => 0, rfl, BytesAt.nil _ _ _ _⟩
  · simp [Value.cells] at hcs
    obtain ⟨rfl, rfl, rfl⟩ := hcs
    simp only [if_true] at hz
    by_cases h0 : m = 0
    · subst h0
      exact ⟨some x, 0, cap, 0, 0, fun _ => 0, rfl, fun hh => absurd hh (Nat.lt_irrefl _), (fun hh => by cases hh), fun _ hi => absurd hi (Nat.not_lt_zero _)⟩
    · obtain ⟨b, off, spot⟩ := x
      have hspot : spot = none := by simpa [Addr.add] using World.cell?_spot (hcell 0 (by omega))
      subst hspot
      exact ⟨_, m, cap, b, off, fun i => zs.getD i 0, rfl, fun _ => rfl, (fun hh => by cases hh), fun i hi => by rw [← add_plain]; exact hcell i (by omega)⟩

end Go.Proofs.Qxb6604243a
