/-
  ROWS OF SPANS (two cells an element) AND THE CONVERTERS toZZ (10), fromZZ (8).
-/
import Derived.Test.Qxb6604243aProg
import Derived.KernelRfl
import Derived.WalkKit
import Derived.WalkSpells
import Derived.WalkLawsBesides
import Derived.Deep.LoopGhost
import Derived.Deep.OwnRows
import Derived.Deep.Light
import Derived.Deep.QuietTactic
import Derived.BigQuiet
import Derived.BigRegion
namespace Go.Proofs.Qxb6604243a
open Go.RowKit

theorem hide {p : Prop} (h : p) : Hid p := h

/-- 'make([]T, n)', T of several cells: the kit's 'run_make' with what is known of T taken as one closed fact. -/
theorem run_make_cells {P : Program} (t e : TypeId) (z : Value) (zs : Array Value) (size bytes : Nat) (ht : P.underlying t = some (.slice e)) (hinfo : (P.info? e).map (fun i => (i.zero, i.size, i.bytes)) = some (some z, size, bytes)) (hz1 : z.cells = zs)
    (kl kc : IntKind) (n : Nat) (hbytes : bytes * n ≤ 281474976710656) (h63 : n ≤ 9223372036854775807) (w : World) :
    (Instr.makeSlice t (.int kl (n : Int)) (.int kc (n : Int))).run P w = .ok (.slice (some ⟨w.heap.size, 0, none⟩) n n) (w.alloc (.cells (madeCells zs (n * size)) e)) := by
  obtain ⟨i, hi, hzz⟩ := Option.map_eq_some_iff.1 hinfo
  simp only [Prod.mk.injEq] at hzz
  obtain ⟨hz, hs, hb⟩ := hzz
  have hb' : (i.bytes : Int) * (n : Int) ≤ 281474976710656 := by
    have h : ((i.bytes * n : Nat) : Int) ≤ 281474976710656 := by rw [hb]; omega
    rwa [Int.natCast_mul] at h
  have hr := run_make (P := P) w t e i z ht hi hz kl kc n n (by omega) (Int.le_refl _) hb' (by omega)
  simp only [Int.toNat_natCast, hs, hz1] at hr
  exact hr

theorem Try.info34 : (Try.prog.info? 34).map (fun i => (i.zero, i.size, i.bytes)) = some (some (.agg #[.int .u64 0, .int .i64 0]), 2, 16) := by kernel_rfl
theorem Try.info76 : (Try.prog.info? 76).map (fun i => (i.zero, i.size, i.bytes)) = some (some (.agg #[.int .u64 0, .int .i64 0]), 2, 16) := by kernel_rfl
theorem Try.info92 : (Try.prog.info? 92).map (fun i => (i.zero, i.size, i.bytes)) = some (some (.agg #[.int .u64 0, .int .i64 0]), 2, 16) := by kernel_rfl

/-- A row of spans, cell by cell: the first k are (E i, B i), the others zero. -/
def spans (E B : Nat → Int) (k : Nat) : Nat → Value := fun j => if j % 2 = 0 then .int .u64 (if j / 2 < k then E (j / 2) else 0) else .int .i64 (if j / 2 < k then B (j / 2) else 0)
theorem spans_made (w : World) (n : Nat) (t : TypeId) (E B : Nat → Int) : (w.alloc (.cells (madeCells #[.int .u64 0, .int .i64 0] (n * 2)) t)).rowIs w.heap.size t (n * 2) (spans E B 0) := by
  refine ⟨_, Deep.blk_alloc_new _ _, size_madeCells _ _, fun i hi => ?_⟩
  have h2 : i % 2 = 0 ∨ i % 2 = 1 := by omega
  rcases h2 with h | h <;> simp [madeCells, hi, h, spans]
theorem spans_set {w : World} {b : Nat} {t : TypeId} {n k : Nat} {E B : Nat → Int} (h : w.rowIs b t n (spans E B k)) :
    ((w.setCell ⟨b, k * 2, none⟩ (.int .u64 (E k))).setCell ⟨b, k * 2 + 1, none⟩ (.int .i64 (B k))).rowIs b t n (spans E B (k + 1)) := by
  refine ((h.set _ _).set _ _).congr fun j _ => ?_
  by_cases e1 : j = k * 2 + 1
  · subst e1
    have : (k * 2 + 1) % 2 = 1 := by omega
    have h3 : (k * 2 + 1) / 2 = k := by omega
    simp [spans, this, h3]
  · rw [if_neg e1]
    by_cases e2 : j = k * 2
    · subst e2
      simp [spans]
    · rw [if_neg e2]
      have h4 : (j / 2 < k) ↔ (j / 2 < k + 1) := by omega
      simp [spans, h4]
theorem spans_fst (E B : Nat → Int) (k i : Nat) (h : i < k) : spans E B k (i * 2) = .int .u64 (E i) := by
  simp [spans, h]
theorem spans_snd (E B : Nat → Int) (k i : Nat) (h : i < k) : spans E B k (i * 2 + 1) = .int .i64 (B i) := by
  have h1 : (i * 2 + 1) % 2 = 1 := by omega
  have h2 : (i * 2 + 1) / 2 = i := by omega
  simp [spans, h1, h2, h]
theorem spans_fst' (E B : Nat → Int) (k : Nat) : spans E B k (k * 2) = .int .u64 0 := by
  simp [spans]
theorem spans_snd' (E B : Nat → Int) (k : Nat) : spans E B k (k * 2 + 1) = .int .i64 0 := by
  have h1 : (k * 2 + 1) % 2 = 1 := by omega
  have h2 : (k * 2 + 1) / 2 = k := by omega
  simp [spans, h1, h2]

/-- The spans that a slice leads to. -/
def SpansAt (w : World) (ad : Option Addr) (m b off : Nat) (E B : Nat → Int) : Prop :=
  (0 < m → ad = some ⟨b, off, none⟩) ∧ (ad = none → m = 0) ∧ ∀ i, i < m → w.cell? ⟨b, off + i * 2, none⟩ = some (.int .u64 (E i)) ∧ w.cell? ⟨b, off + i * 2 + 1, none⟩ = some (.int .i64 (B i))
theorem SpansAt.below {w w' : World} {ad : Option Addr} {m b off : Nat} {E B : Nat → Int} (h : SpansAt w ad m b off E B) (hb : Below w.heap.size w w') : SpansAt w' ad m b off E B :=
  ⟨h.1, h.2.1, fun i hi => ⟨(hb.cell (World.block_lt_of_cell? _ _ (h.2.2 i hi).1)).trans (h.2.2 i hi).1, (hb.cell (World.block_lt_of_cell? _ _ (h.2.2 i hi).2)).trans (h.2.2 i hi).2⟩⟩
theorem SpansAt.of_row {w : World} {b : Nat} {t : TypeId} {n : Nat} {E B : Nat → Int} (h : w.rowIs b t (n * 2) (spans E B n)) : SpansAt w (some ⟨b, 0, none⟩) n b 0 E B :=
  ⟨fun _ => rfl, (fun h => by cases h), fun i hi => ⟨by rw [Nat.zero_add, h.cell (by omega), spans_fst _ _ _ _ hi], by rw [Nat.zero_add, h.cell (by omega), spans_snd _ _ _ _ hi]⟩⟩
theorem SpansAt.setCell {w : World} {ad : Option Addr} {m b off : Nat} {E B : Nat → Int} (h : SpansAt w ad m b off E B) {a : Addr} (v : Value) (ha : b ≠ a.block) : SpansAt (w.setCell a v) ad m b off E B :=
  ⟨h.1, h.2.1, fun i hi => ⟨(World.cell?_of_block (Below.heap_setCell _ _ _ _ ha)).trans (h.2.2 i hi).1, (World.cell?_of_block (Below.heap_setCell _ _ _ _ ha)).trans (h.2.2 i hi).2⟩⟩
theorem SpansAt.nil (w : World) (b off : Nat) (E B : Nat → Int) : SpansAt w none 0 b off E B :=
  ⟨fun h => absurd h (Nat.lt_irrefl _), fun _ => rfl, fun _ hi => absurd hi (Nat.not_lt_zero _)⟩

/-- The thirteen cells of a progress. -/
def progCells (x0 x1 x2 x3 : Int) (b4 b5 : Bool) (sl : Value) (x7 x8 x9 x10 x11 x12 : Int) : Array Value :=
  #[.int .u64 x0, .int .u64 x1, .int .u64 x2, .int .u64 x3, .bool b4, .bool b5, sl, .int .i64 x7, .int .u64 x8, .int .u64 x9, .int .u64 x10, .int .u64 x11, .int .u64 x12]
/-- Block h of w holds them. -/
def ProgAt (w : World) (h : Nat) (t : TypeId) (x0 x1 x2 x3 : Int) (b4 b5 : Bool) (sl : Value) (x7 x8 x9 x10 x11 x12 : Int) : Prop :=
  w.heap[h]? = some (.cells (progCells x0 x1 x2 x3 b4 b5 sl x7 x8 x9 x10 x11 x12) t (0, 0))
section
variable {w : World} {h : Nat} {t : TypeId} {x0 x1 x2 x3 : Int} {b4 b5 : Bool} {sl : Value} {x7 x8 x9 x10 x11 x12 : Int}
theorem ProgAt.cells (hp : ProgAt w h t x0 x1 x2 x3 b4 b5 sl x7 x8 x9 x10 x11 x12) :
    w.cell? ⟨h, 0, none⟩ = some (.int .u64 x0) ∧ w.cell? ⟨h, 1, none⟩ = some (.int .u64 x1) ∧ w.cell? ⟨h, 2, none⟩ = some (.int .u64 x2) ∧ w.cell? ⟨h, 3, none⟩ = some (.int .u64 x3) ∧
    w.cell? ⟨h, 4, none⟩ = some (.bool b4) ∧ w.cell? ⟨h, 5, none⟩ = some (.bool b5) ∧ w.cell? ⟨h, 6, none⟩ = some sl ∧ w.cell? ⟨h, 7, none⟩ = some (.int .i64 x7) ∧ w.cell? ⟨h, 8, none⟩ = some (.int .u64 x8) ∧
    w.cell? ⟨h, 9, none⟩ = some (.int .u64 x9) ∧ w.cell? ⟨h, 10, none⟩ = some (.int .u64 x10) ∧ w.cell? ⟨h, 11, none⟩ = some (.int .u64 x11) ∧ w.cell? ⟨h, 12, none⟩ = some (.int .u64 x12) := by
  unfold ProgAt at hp
  simp [World.cell?, hp, progCells]
theorem ProgAt.frozen (hp : ProgAt w h t x0 x1 x2 x3 b4 b5 sl x7 x8 x9 x10 x11 x12) : ∀ j, w.frozen? ⟨h, j, none⟩ = false := by
  unfold ProgAt at hp
  intro j
  simp [World.frozen?, hp]
theorem ProgAt.cell6 (hp : ProgAt w h t x0 x1 x2 x3 b4 b5 sl x7 x8 x9 x10 x11 x12) : w.cell? ⟨h, 6, none⟩ = some sl := hp.cells.2.2.2.2.2.2.1
theorem ProgAt.lt (hp : ProgAt w h t x0 x1 x2 x3 b4 b5 sl x7 x8 x9 x10 x11 x12) : h < w.heap.size := World.block_lt_of_cell? _ _ hp.cells.1
theorem ProgAt.alloc (hp : ProgAt w h t x0 x1 x2 x3 b4 b5 sl x7 x8 x9 x10 x11 x12) (o : Obj) : ProgAt (w.alloc o) h t x0 x1 x2 x3 b4 b5 sl x7 x8 x9 x10 x11 x12 := by
  unfold ProgAt
  rw [Below.heap_alloc _ _ _ hp.lt]
  exact hp
theorem ProgAt.setCell (hp : ProgAt w h t x0 x1 x2 x3 b4 b5 sl x7 x8 x9 x10 x11 x12) {a : Addr} (v : Value) (ha : h ≠ a.block) : ProgAt (w.setCell a v) h t x0 x1 x2 x3 b4 b5 sl x7 x8 x9 x10 x11 x12 := by
  unfold ProgAt
  rw [Below.heap_setCell _ _ _ _ ha]
  exact hp
theorem ProgAt.below {w' : World} (hp : ProgAt w h t x0 x1 x2 x3 b4 b5 sl x7 x8 x9 x10 x11 x12) (hb : Below w.heap.size w w') : ProgAt w' h t x0 x1 x2 x3 b4 b5 sl x7 x8 x9 x10 x11 x12 := by
  unfold ProgAt
  rw [hb.block h hp.lt]
  exact hp
theorem ProgAt.new (w : World) (t : TypeId) (x0 x1 x2 x3 : Int) (b4 b5 : Bool) (sl : Value) (x7 x8 x9 x10 x11 x12 : Int) :
    ProgAt (w.alloc (.cells #[.int .u64 x0, .int .u64 x1, .int .u64 x2, .int .u64 x3, .bool b4, .bool b5, sl, .int .i64 x7, .int .u64 x8, .int .u64 x9, .int .u64 x10, .int .u64 x11, .int .u64 x12] t)) w.heap.size t x0 x1 x2 x3 b4 b5 sl x7 x8 x9 x10 x11 x12 :=
  heap_alloc_new w _
end

/-- What a converter leaves: the same fields, the spans in memory of its own. -/
def ConvPost (x0 x1 x2 x3 : Int) (b4 b5 : Bool) (m : Nat) (x7 x8 x9 x10 x11 x12 : Int) (E B : Nat → Int) (w : World) (e : Ending) (w' : World) : Prop :=
  ∃ ad g cap, e = .returned (.agg #[.int .u64 x0, .int .u64 x1, .int .u64 x2, .int .u64 x3, .bool b4, .bool b5, .slice ad m cap, .int .i64 x7, .int .u64 x8, .int .u64 x9, .int .u64 x10, .int .u64 x11, .int .u64 x12]) ∧
    SpansAt w' ad m g 0 E B ∧ w.heap.size ≤ g ∧ Below w.heap.size w w'

end Go.Proofs.Qxb6604243a
