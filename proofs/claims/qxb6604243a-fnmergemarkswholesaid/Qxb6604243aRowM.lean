/-
  MARKS APPENDED WITHIN THE CAPACITY.
-/
import Derived.Test.Qxb6604243aMergeL
import Derived.Deep.RegionLaw
import Derived.Lib.LazyBuf
namespace Go.Proofs.Qxb6604243a
open Go.RowKit

/-- Cell j of a run of marks. -/
def cellAt (H : Nat → Mk) (j : Nat) : Value :=
  if j % 5 = 0 then .string (H (j / 5)).id else if j % 5 = 1 then .int .u64 (H (j / 5)).seq else if j % 5 = 2 then .int .u64 (H (j / 5)).index else if j % 5 = 3 then .int .u64 (H (j / 5)).term else .int .u64 (H (j / 5)).time
theorem cellAt_0 (H : Nat → Mk) (i : Nat) : cellAt H (i * 5) = .string (H i).id := by simp [cellAt]
theorem cellAt_1 (H : Nat → Mk) (i : Nat) : cellAt H (i * 5 + 1) = .int .u64 (H i).seq := by
  have h1 : (i * 5 + 1) % 5 = 1 := by omega
  have h2 : (i * 5 + 1) / 5 = i := by omega
  simp [cellAt, h1, h2]
theorem cellAt_2 (H : Nat → Mk) (i : Nat) : cellAt H (i * 5 + 2) = .int .u64 (H i).index := by
  have h1 : (i * 5 + 2) % 5 = 2 := by omega
  have h2 : (i * 5 + 2) / 5 = i := by omega
  simp [cellAt, h1, h2]
theorem cellAt_3 (H : Nat → Mk) (i : Nat) : cellAt H (i * 5 + 3) = .int .u64 (H i).term := by
  have h1 : (i * 5 + 3) % 5 = 3 := by omega
  have h2 : (i * 5 + 3) / 5 = i := by omega
  simp [cellAt, h1, h2]
theorem cellAt_4 (H : Nat → Mk) (i : Nat) : cellAt H (i * 5 + 4) = .int .u64 (H i).time := by
  have h1 : (i * 5 + 4) % 5 = 4 := by omega
  have h2 : (i * 5 + 4) / 5 = i := by omega
  simp [cellAt, h1, h2]
theorem cellAt_one (H : Nat → Mk) (j : Nat) : (cellAt H j).oneCell' = true := by
  unfold cellAt
  repeat' split
  all_goals rfl
/-- The cells of k marks. -/
def run (H : Nat → Mk) (k : Nat) : List Value := (List.range (k * 5)).map (cellAt H)
theorem run_length (H : Nat → Mk) (k : Nat) : (run H k).length = k * 5 := by simp [run]
theorem run_get (H : Nat → Mk) (k j : Nat) (u : Value) (h : (run H k)[j]? = some u) : j < k * 5 ∧ u = cellAt H j := by
  unfold run at h
  rw [List.getElem?_map, Option.map_eq_some_iff] at h
  obtain ⟨a, h1, h2⟩ := h
  obtain ⟨h3, h4⟩ := List.getElem?_eq_some_iff.1 h1
  simp only [List.length_range] at h3
  simp only [List.getElem_range] at h4
  exact ⟨h3, by rw [← h2, h4]⟩
theorem run_one (H : Nat → Mk) (k : Nat) : ∀ u ∈ run H k, u.oneCell' = true := by
  intro u hu
  obtain ⟨j, _, rfl⟩ := List.mem_map.1 hu
  exact cellAt_one H j
theorem run_1 (x : Mk) : run (fun _ => x) 1 = [.string x.id, .int .u64 x.seq, .int .u64 x.index, .int .u64 x.term, .int .u64 x.time] := rfl

/-- p marks, then others. -/
def cat (p : Nat) (G H : Nat → Mk) : Nat → Mk := fun q => if q < p then G q else H (q - p)
theorem listOf_cat (p k : Nat) (G H : Nat → Mk) : listOf (p + k) (cat p G H) = listOf p G ++ listOf k H := by
  rw [listOf_append]
  congr 1
  · exact listOf_congr fun i hi => by simp [cat, hi]
  · exact listOf_congr fun i _ => by simp only [cat]; rw [if_neg (by omega), Nat.add_sub_cancel_left]
theorem listOf_cat_one (p : Nat) (G : Nat → Mk) (x : Mk) : listOf (p + 1) (cat p G fun _ => x) = listOf (p + 1) (ext G p x) := by
  rw [listOf_cat, listOf_ext]
  rfl

/-- Block g is a row of C marks' room whose first p are told by G. -/
def Row (w : World) (g C p : Nat) (G : Nat → Mk) : Prop := ∃ f, w.rowIs g 89 (C * 5) f ∧ ∀ j, j < p * 5 → f j = cellAt G j
theorem Row.alloc {w : World} {g C p : Nat} {G : Nat → Mk} (h : Row w g C p G) (o : Obj) : Row (w.alloc o) g C p G := by
  obtain ⟨f, h1, h2⟩ := h
  exact ⟨f, h1.alloc o, h2⟩
theorem Row.drew {w : World} {g C p : Nat} {G : Nat → Mk} (h : Row w g C p G) : Row w.drew g C p G := h
theorem Row.drewN {w : World} {g C p : Nat} {G : Nat → Mk} (h : Row w g C p G) (q : Nat) : Row (w.drewN q) g C p G := h
theorem Row.lt {w : World} {g C p : Nat} {G : Nat → Mk} (h : Row w g C p G) : g < w.heap.size := by
  obtain ⟨f, h1, h2⟩ := h
  exact h1.lt
theorem Row.append {w : World} {g C p k : Nat} {G H : Nat → Mk} (h : Row w g C p G) : Row (w.setCells g (0 + p * 5) (run H k)) g C (p + k) (cat p G H) := by
  obtain ⟨f, h1, h2⟩ := h
  refine ⟨_, rowIs_setCells (run H k) (0 + p * 5) w f h1, fun j hj => ?_⟩
  rw [run_length]
  by_cases hp : j < p * 5
  · rw [if_neg (by omega), h2 j hp]
    have h5 : j / 5 < p := by omega
    simp [cellAt, cat, h5]
  · rw [if_pos (by omega)]
    have hj' : j - (0 + p * 5) < k * 5 := by omega
    have e1 : (run H k)[j - (0 + p * 5)]? = some (cellAt H (j - (0 + p * 5))) := by
      unfold run
      rw [List.getElem?_map, List.getElem?_range hj']
      rfl
    rw [e1]
    show cellAt H (j - (0 + p * 5)) = cellAt (cat p G H) j
    have h5 : ¬ j / 5 < p := by omega
    have h6 : (j - (0 + p * 5)) % 5 = j % 5 := by omega
    have h7 : (j - (0 + p * 5)) / 5 = j / 5 - p := by omega
    simp only [cellAt, cat, h5, h6, h7, if_false]
theorem Row.spare {w : World} {g C p k : Nat} {G H : Nat → Mk} (h : Row w g C p G) (hC : p + k ≤ C) : ∀ j, j < (run H k).length → (w.cell? ⟨g, 0 + p * 5 + j, none⟩).isSome = true ∧ w.frozen? ⟨g, 0 + p * 5 + j, none⟩ = false := by
  intro j hj
  obtain ⟨f, h1, h2⟩ := h
  rw [run_length] at hj
  exact ⟨by rw [h1.cell (by omega)]; rfl, h1.frozen _⟩
theorem Row.marks {w : World} {g C p : Nat} {G : Nat → Mk} (h : Row w g C p G) (hC : p ≤ C) (hz : ∀ i, i < p → (G i).id.size ≤ 9223372036854775807) : MksAt w (some ⟨g, 0, none⟩) p g 0 G := by
  obtain ⟨f, h1, h2⟩ := h
  refine ⟨fun _ => rfl, (fun h => by cases h), fun i hi => ?_, hz⟩
  rw [Nat.zero_add]
  exact ⟨by rw [h1.cell (by omega), h2 _ (by omega), cellAt_0], by rw [h1.cell (by omega), h2 _ (by omega), cellAt_1], by rw [h1.cell (by omega), h2 _ (by omega), cellAt_2],
    by rw [h1.cell (by omega), h2 _ (by omega), cellAt_3], by rw [h1.cell (by omega), h2 _ (by omega), cellAt_4]⟩
theorem Row.made (w : World) (C : Nat) (G : Nat → Mk) : Row (w.alloc (.cells (madeCells #[.string ByteArray.empty, .int .u64 0, .int .u64 0, .int .u64 0, .int .u64 0] (C * 5)) 89)) w.heap.size C 0 G :=
  ⟨fun j => (madeCells #[.string ByteArray.empty, .int .u64 0, .int .u64 0, .int .u64 0, .int .u64 0] (C * 5))[j]!, ⟨_, Deep.blk_alloc_new _ _, size_madeCells _ _, fun i hi => by
    rw [Array.getElem?_eq_getElem (by rw [size_madeCells]; exact hi)]
    simp [getElem!_pos, size_madeCells, hi]⟩, fun j hj => by omega⟩

/-- The marks that a slice leads to, as a run of cells. -/
theorem MksAt.run {w : World} {ad : Option Addr} {m b off : Nat} {F : Nat → Mk} (h : MksAt w ad m b off F) : ∀ j u, (run F m)[j]? = some u → w.cell? ((⟨b, off, none⟩ : Addr).add j) = some u := by
  intro j u hj
  obtain ⟨h1, rfl⟩ := run_get F m j u hj
  rw [WideShapes.add_plain]
  obtain ⟨i, hi⟩ : ∃ i, i = j / 5 := ⟨_, rfl⟩
  obtain ⟨c0, c1, c2, c3, c4⟩ := h.2.2.1 i (by omega)
  have h5 : j = i * 5 ∨ j = i * 5 + 1 ∨ j = i * 5 + 2 ∨ j = i * 5 + 3 ∨ j = i * 5 + 4 := by omega
  rcases h5 with rfl | rfl | rfl | rfl | rfl
  · rw [cellAt_0]; exact c0
  · rw [cellAt_1]; exact c1
  · rw [cellAt_2]; exact c2
  · rw [cellAt_3]; exact c3
  · rw [cellAt_4]; exact c4

/-- append within the capacity, at a block's head, as a law for a plain list of operations. -/
theorem wpList_append_cells {P : Program} (w : World) {ops : Array Oper} {rest : List Oper} {o : Oper} {a : Act} {Q : Exit → Act → World → Prop}
    (hg : o.guard = none) (s x : Operand) (t : TypeId) (hop : o.op = Op.call { callee := Callee.builtin Builtin.append, args := #[s, x], argTypes := #[t, t] })
    (e : TypeId) (i : TypeInfo) (size : Nat) (h1 : P.underlying t = some (.slice e)) (h2 : P.info? e = some i) (h4 : i.size = size)
    (b off n cap : Nat) (hs : a.eval s = .slice (some ⟨b, off, none⟩) n cap)
    (ad : Addr) (m c : Nat) (news : List Value) (hx : a.eval x = .slice (some ad) m c) (hn : news.length = m * size) (hc : ∀ j u, news[j]? = some u → w.cell? (ad.add j) = some u) (h1c : ∀ u ∈ news, u.oneCell' = true)
    (hroom : n + m ≤ cap) (hspare : ∀ j, j < news.length → (w.cell? ⟨b, off + n * size + j, none⟩).isSome = true ∧ w.frozen? ⟨b, off + n * size + j, none⟩ = false)
    (hK : wpList P ops Q rest (a.put o.dst (.slice (some ⟨b, off, none⟩) (n + m) cap)) (w.setCells b (off + n * size) news)) : wpList P ops Q (o :: rest) a w := by
  refine wpList_plain hg fun K hK' => ?_
  subst h4
  have hrun := run_append_room_cells (P := P) w t o.type e i h1 h2 b off n cap ad m c news hn hc h1c hroom (fun j hj => (hspare j hj).1) (fun j hj => (hspare j hj).2)
  unfold Oper.wp
  simp [execOp, hop, resolve, invoke, builtin, hs, hx, hrun, Result.andThen]
  exact hK' _ _ hK

/-- 'make([]T, 0, c)', T of several cells. -/
theorem run_make_cap {P : Program} (t e : TypeId) (z : Value) (zs : Array Value) (size bytes : Nat) (ht : P.underlying t = some (.slice e)) (hinfo : (P.info? e).map (fun i => (i.zero, i.size, i.bytes)) = some (some z, size, bytes)) (hz1 : z.cells = zs)
    (kl kc : IntKind) (n : Nat) (N : Int) (hN : N = (n : Int)) (hbytes : bytes * n ≤ 281474976710656) (h63 : n ≤ 9223372036854775807) (w : World) :
    (Instr.makeSlice t (.int kl 0) (.int kc N)).run P w = .ok (.slice (some ⟨w.heap.size, 0, none⟩) 0 n) (w.alloc (.cells (madeCells zs (n * size)) e)) := by
  subst hN
  obtain ⟨i, hi, hzz⟩ := Option.map_eq_some_iff.1 hinfo
  simp only [Prod.mk.injEq] at hzz
  obtain ⟨hz, hs, hb⟩ := hzz
  have hb' : (i.bytes : Int) * (n : Int) ≤ 281474976710656 := by
    have h : ((i.bytes * n : Nat) : Int) ≤ 281474976710656 := by rw [hb]; omega
    rwa [Int.natCast_mul] at h
  have hr := run_make (P := P) w t e i z ht hi hz kl kc 0 n (by omega) (by omega) hb' (by omega)
  simp only [Int.toNat_natCast, hs, hz1] at hr
  exact hr

end Go.Proofs.Qxb6604243a
