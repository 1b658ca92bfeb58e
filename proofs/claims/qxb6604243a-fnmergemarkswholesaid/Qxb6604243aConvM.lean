/-
  ROWS OF MARKS; toMarks (28), fromMarks (26).
-/
import Derived.Test.Qxb6604243aMarks
namespace Go.Proofs.Qxb6604243a
open Go.RowKit

theorem Try.info89 : (Try.prog.info? 89).map (fun i => (i.zero, i.size, i.bytes)) = some (some (.agg #[.string ByteArray.empty, .int .u64 0, .int .u64 0, .int .u64 0, .int .u64 0]), 5, 48) := by kernel_rfl
theorem Try.info75 : (Try.prog.info? 75).map (fun i => (i.zero, i.size, i.bytes)) = some (some (.agg #[.string ByteArray.empty, .int .u64 0, .int .u64 0, .int .u64 0, .int .u64 0]), 5, 48) := by kernel_rfl

/-- A row of marks, cell by cell: the first k are told, the others zero. -/
def mks (F : Nat → Mk) (k : Nat) : Nat → Value := fun j =>
  if j % 5 = 0 then .string (if j / 5 < k then (F (j / 5)).id else ByteArray.empty) else if j % 5 = 1 then .int .u64 (if j / 5 < k then (F (j / 5)).seq else 0)
  else if j % 5 = 2 then .int .u64 (if j / 5 < k then (F (j / 5)).index else 0) else if j % 5 = 3 then .int .u64 (if j / 5 < k then (F (j / 5)).term else 0) else .int .u64 (if j / 5 < k then (F (j / 5)).time else 0)
section
variable (F : Nat → Mk)
theorem mks_0 (k i : Nat) : mks F k (i * 5) = .string (if i < k then (F i).id else ByteArray.empty) := by
  simp [mks]
theorem mks_1 (k i : Nat) : mks F k (i * 5 + 1) = .int .u64 (if i < k then (F i).seq else 0) := by
  have h1 : (i * 5 + 1) % 5 = 1 := by omega
  have h2 : (i * 5 + 1) / 5 = i := by omega
  simp [mks, h1, h2]
theorem mks_2 (k i : Nat) : mks F k (i * 5 + 2) = .int .u64 (if i < k then (F i).index else 0) := by
  have h1 : (i * 5 + 2) % 5 = 2 := by omega
  have h2 : (i * 5 + 2) / 5 = i := by omega
  simp [mks, h1, h2]
theorem mks_3 (k i : Nat) : mks F k (i * 5 + 3) = .int .u64 (if i < k then (F i).term else 0) := by
  have h1 : (i * 5 + 3) % 5 = 3 := by omega
  have h2 : (i * 5 + 3) / 5 = i := by omega
  simp [mks, h1, h2]
theorem mks_4 (k i : Nat) : mks F k (i * 5 + 4) = .int .u64 (if i < k then (F i).time else 0) := by
  have h1 : (i * 5 + 4) % 5 = 4 := by omega
  have h2 : (i * 5 + 4) / 5 = i := by omega
  simp [mks, h1, h2]
theorem fifth (j : Nat) : ∃ i, j = i * 5 ∨ j = i * 5 + 1 ∨ j = i * 5 + 2 ∨ j = i * 5 + 3 ∨ j = i * 5 + 4 := ⟨j / 5, by omega⟩
theorem mks_made (w : World) (n : Nat) (t : TypeId) : (w.alloc (.cells (madeCells #[.string ByteArray.empty, .int .u64 0, .int .u64 0, .int .u64 0, .int .u64 0] (n * 5)) t)).rowIs w.heap.size t (n * 5) (mks F 0) := by
  refine ⟨_, Deep.blk_alloc_new _ _, size_madeCells _ _, fun i hi => ?_⟩
  obtain ⟨q, rfl | rfl | rfl | rfl | rfl⟩ := fifth i
  · rw [mks_0]; simp [madeCells, hi]
  · rw [mks_1]
    have h1 : (q * 5 + 1) % 5 = 1 := by omega
    simp [madeCells, hi, h1]
  · rw [mks_2]
    have h1 : (q * 5 + 2) % 5 = 2 := by omega
    simp [madeCells, hi, h1]
  · rw [mks_3]
    have h1 : (q * 5 + 3) % 5 = 3 := by omega
    simp [madeCells, hi, h1]
  · rw [mks_4]
    have h1 : (q * 5 + 4) % 5 = 4 := by omega
    simp [madeCells, hi, h1]
variable {F}
theorem mks_set {w : World} {b : Nat} {t : TypeId} {n k : Nat} (h : w.rowIs b t n (mks F k)) :
    (((((w.setCell ⟨b, k * 5, none⟩ (.string (F k).id)).setCell ⟨b, k * 5 + 1, none⟩ (.int .u64 (F k).seq)).setCell ⟨b, k * 5 + 2, none⟩ (.int .u64 (F k).index)).setCell ⟨b, k * 5 + 3, none⟩ (.int .u64 (F k).term)).setCell ⟨b, k * 5 + 4, none⟩ (.int .u64 (F k).time)).rowIs b t n (mks F (k + 1)) := by
  refine (((((h.set _ _).set _ _).set _ _).set _ _).set _ _).congr fun j _ => ?_
  obtain ⟨q, rfl | rfl | rfl | rfl | rfl⟩ := fifth j
  · rw [mks_0, mks_0]
    by_cases e : q = k
    · subst e
      rw [if_neg (by omega), if_neg (by omega), if_neg (by omega), if_neg (by omega), if_pos rfl, if_pos (by omega)]
    · rw [if_neg (by omega), if_neg (by omega), if_neg (by omega), if_neg (by omega), if_neg (by omega)]
      have : q < k ↔ q < k + 1 := by omega
      simp [this]
  · rw [mks_1, mks_1]
    by_cases e : q = k
    · subst e
      rw [if_neg (by omega), if_neg (by omega), if_neg (by omega), if_pos rfl, if_pos (by omega)]
    · rw [if_neg (by omega), if_neg (by omega), if_neg (by omega), if_neg (by omega), if_neg (by omega)]
      have : q < k ↔ q < k + 1 := by omega
      simp [this]
  · rw [mks_2, mks_2]
    by_cases e : q = k
    · subst e
      rw [if_neg (by omega), if_neg (by omega), if_pos rfl, if_pos (by omega)]
    · rw [if_neg (by omega), if_neg (by omega), if_neg (by omega), if_neg (by omega), if_neg (by omega)]
      have : q < k ↔ q < k + 1 := by omega
      simp [this]
  · rw [mks_3, mks_3]
    by_cases e : q = k
    · subst e
      rw [if_neg (by omega), if_pos rfl, if_pos (by omega)]
    · rw [if_neg (by omega), if_neg (by omega), if_neg (by omega), if_neg (by omega), if_neg (by omega)]
      have : q < k ↔ q < k + 1 := by omega
      simp [this]
  · rw [mks_4, mks_4]
    by_cases e : q = k
    · subst e
      rw [if_pos rfl, if_pos (by omega)]
    · rw [if_neg (by omega), if_neg (by omega), if_neg (by omega), if_neg (by omega), if_neg (by omega)]
      have : q < k ↔ q < k + 1 := by omega
      simp [this]
theorem MksAt.of_row {w : World} {b : Nat} {t : TypeId} {n : Nat} (h : w.rowIs b t (n * 5) (mks F n)) (hz : ∀ i, i < n → (F i).id.size ≤ 9223372036854775807) : MksAt w (some ⟨b, 0, none⟩) n b 0 F :=
  ⟨fun _ => rfl, (fun h => by cases h), fun i hi => ⟨by rw [Nat.zero_add, h.cell (by omega), mks_0, if_pos hi], by rw [Nat.zero_add, h.cell (by omega), mks_1, if_pos hi],
    by rw [Nat.zero_add, h.cell (by omega), mks_2, if_pos hi], by rw [Nat.zero_add, h.cell (by omega), mks_3, if_pos hi], by rw [Nat.zero_add, h.cell (by omega), mks_4, if_pos hi]⟩, hz⟩
end

/-- What the converters leave: the same marks in memory of their own. -/
def MksPost (m : Nat) (F : Nat → Mk) (w : World) (e : Ending) (w' : World) : Prop :=
  ∃ ad g cap, e = .returned (.slice ad m cap) ∧ MksAt w' ad m g 0 F ∧ m ≤ cap ∧ w.heap.size ≤ g ∧ Below w.heap.size w w'

theorem tomarks_nil (cap : Nat) (F : Nat → Mk) (w : World) : Calls Try.prog 28 #[.slice none 0 cap] w (MksPost 0 F w) := by
  have qs : ∀ (w : World) a n c, (binOp .eql 65 (.slice a n c) (.slice none 0 0)).run Try.prog w = .ok (.bool a.isNone) w := fun w a n c => Lib.run_eql_slice_nil w 65 75 a n c 0 0 Try.underlying65
  go_enter Try.func28, Try.ntmps28
  go_wp2
  go_ret
  exact ⟨none, w.heap.size, 0, rfl, MksAt.nil _ _ _ _, Nat.le_refl _, Nat.le_refl _, Below.refl _ _⟩

set_option maxHeartbeats 4000000 in
theorem tomarks_any (a : Addr) (m cap b off : Nat) (F : Nat → Mk) (w : World) (hm : m ≤ 65536) (hz : MksAt w (some a) m b off F) : Calls Try.prog 28 #[.slice (some a) m cap] w (MksPost m F w) := by
  have qs : ∀ (w : World) a n c, (binOp .eql 65 (.slice a n c) (.slice none 0 0)).run Try.prog w = .ok (.bool a.isNone) w := fun w a n c => Lib.run_eql_slice_nil w 65 75 a n c 0 0 Try.underlying65
  have hmk := run_make_cells (P := Try.prog) 70 89 _ _ 5 48 Try.underlying70 Try.info89 rfl .i64 .i64 m (by omega) (by omega)
  have hB0 : Below w.heap.size w (w.alloc (.cells (madeCells #[.string ByteArray.empty, .int .u64 0, .int .u64 0, .int .u64 0, .int .u64 0] (m * 5)) 89)) := (Below.refl _ _).alloc (Nat.le_refl _) _
  have hR0 := mks_made F w m 89
  have HB0 := hide hB0
  have HR0 := hide hR0
  have HZ := hide hz
  clear hz hB0 hR0
  go_enter Try.func28, Try.ntmps28
  go_wp2
  clear hmk qs
  go_loopg [4] m (fun g i wr => ∃ k : Nat, k ≤ m ∧ g = m - k ∧ i = .int .i64 k ∧ wr.rowIs w.heap.size 89 (m * 5) (mks F k) ∧ Below w.heap.size w wr)
  case atStart => exact ⟨0, Nat.zero_le _, rfl, rfl, HR0.out, HB0.out⟩
  case round =>
    clear HB0 HR0
    obtain ⟨k, hk, rfl, rfl, hrow, hbel⟩ := hrel
    by_cases hkm : k < m
    · have hkz : (k : Int) < (m : Int) := by omega
      have f0 := hrow.frozen (k * 5)
      have f1 := hrow.frozen (k * 5 + 1)
      have f2 := hrow.frozen (k * 5 + 2)
      have f3 := hrow.frozen (k * 5 + 3)
      have f4 := hrow.frozen (k * 5 + 4)
      have r0 := hrow.cell (i := k * 5) (by omega)
      have r1 := hrow.cell (i := k * 5 + 1) (by omega)
      have r2 := hrow.cell (i := k * 5 + 2) (by omega)
      have r3 := hrow.cell (i := k * 5 + 3) (by omega)
      have r4 := hrow.cell (i := k * 5 + 4) (by omega)
      rw [mks_0, if_neg (Nat.lt_irrefl k)] at r0
      rw [mks_1, if_neg (Nat.lt_irrefl k)] at r1
      rw [mks_2, if_neg (Nat.lt_irrefl k)] at r2
      rw [mks_3, if_neg (Nat.lt_irrefl k)] at r3
      rw [mks_4, if_neg (Nat.lt_irrefl k)] at r4
      obtain ⟨rfl⟩ := HZ.out.1 (by omega)
      obtain ⟨h0, h1, h2, h3, h4⟩ := (HZ.out.below hbel).2.2.1 k hkm
      have hbl : b < w.heap.size := World.block_lt_of_cell? _ _ (HZ.out.2.2.1 k hkm).1
      have hne : b ≠ w.heap.size := by omega
      have hne' : w.heap.size ≠ b := by omega
      go_wp2
      go_region_held3 (fun w' => w'.cell? ⟨b, off + k * 5, none⟩ = some (.string (F k).id) ∧ w'.cell? ⟨b, off + k * 5 + 1, none⟩ = some (.int .u64 (F k).seq) ∧ w'.cell? ⟨b, off + k * 5 + 2, none⟩ = some (.int .u64 (F k).index) ∧ w'.cell? ⟨b, off + k * 5 + 3, none⟩ = some (.int .u64 (F k).term) ∧ w'.cell? ⟨b, off + k * 5 + 4, none⟩ = some (.int .u64 (F k).time)) (go_keep) (fail)
      go_wp2
      go_roundg (m - (k + 1))
      case measure => omega
      case rel =>
        exact ⟨k + 1, by omega, rfl, by go_num, (mks_set hrow).drew, (((((hbel.setCell (by simp) _).setCell (by simp) _).setCell (by simp) _).setCell (by simp) _).setCell (by simp) _).drew⟩
    · obtain rfl : k = m := by omega
      go_wp2
      go_ret
      exact ⟨_, _, _, rfl, MksAt.of_row (t := 89) hrow HZ.out.2.2.2, Nat.le_refl _, Nat.le_refl _, hbel⟩

theorem tomarks_all (ad : Option Addr) (m cap b off : Nat) (F : Nat → Mk) (w : World) (hm : m ≤ 65536) (hz : MksAt w ad m b off F) : Calls Try.prog 28 #[.slice ad m cap] w (MksPost m F w) := by
  cases ad with
  | none =>
    obtain rfl := hz.2.1 rfl
    exact tomarks_nil cap F w
  | some a => exact tomarks_any a m cap b off F w hm hz

theorem frommarks_nil (cap : Nat) (F : Nat → Mk) (w : World) : Calls Try.prog 26 #[.slice none 0 cap] w (MksPost 0 F w) := by
  have qs : ∀ (w : World) a n c, (binOp .eql 70 (.slice a n c) (.slice none 0 0)).run Try.prog w = .ok (.bool a.isNone) w := fun w a n c => Lib.run_eql_slice_nil w 70 89 a n c 0 0 Try.underlying70
  go_enter Try.func26, Try.ntmps26
  go_wp2
  go_ret
  exact ⟨none, w.heap.size, 0, rfl, MksAt.nil _ _ _ _, Nat.le_refl _, Nat.le_refl _, Below.refl _ _⟩

set_option maxHeartbeats 4000000 in
theorem frommarks_any (a : Addr) (m cap b off : Nat) (F : Nat → Mk) (w : World) (hm : m ≤ 65536) (hz : MksAt w (some a) m b off F) : Calls Try.prog 26 #[.slice (some a) m cap] w (MksPost m F w) := by
  have qs : ∀ (w : World) a n c, (binOp .eql 70 (.slice a n c) (.slice none 0 0)).run Try.prog w = .ok (.bool a.isNone) w := fun w a n c => Lib.run_eql_slice_nil w 70 89 a n c 0 0 Try.underlying70
  have hmk := run_make_cells (P := Try.prog) 65 75 _ _ 5 48 Try.underlying65 Try.info75 rfl .i64 .i64 m (by omega) (by omega)
  have hB0 : Below w.heap.size w (w.alloc (.cells (madeCells #[.string ByteArray.empty, .int .u64 0, .int .u64 0, .int .u64 0, .int .u64 0] (m * 5)) 75)) := (Below.refl _ _).alloc (Nat.le_refl _) _
  have hR0 := mks_made F w m 75
  have HB0 := hide hB0
  have HR0 := hide hR0
  have HZ := hide hz
  clear hz hB0 hR0
  go_enter Try.func26, Try.ntmps26
  go_wp2
  clear hmk qs
  go_loopg [4] m (fun g i wr => ∃ k : Nat, k ≤ m ∧ g = m - k ∧ i = .int .i64 k ∧ wr.rowIs w.heap.size 75 (m * 5) (mks F k) ∧ Below w.heap.size w wr)
  case atStart => exact ⟨0, Nat.zero_le _, rfl, rfl, HR0.out, HB0.out⟩
  case round =>
    clear HB0 HR0
    obtain ⟨k, hk, rfl, rfl, hrow, hbel⟩ := hrel
    by_cases hkm : k < m
    · have hkz : (k : Int) < (m : Int) := by omega
      have f0 := hrow.frozen (k * 5)
      have f1 := hrow.frozen (k * 5 + 1)
      have f2 := hrow.frozen (k * 5 + 2)
      have f3 := hrow.frozen (k * 5 + 3)
      have f4 := hrow.frozen (k * 5 + 4)
      have r0 := hrow.cell (i := k * 5) (by omega)
      have r1 := hrow.cell (i := k * 5 + 1) (by omega)
      have r2 := hrow.cell (i := k * 5 + 2) (by omega)
      have r3 := hrow.cell (i := k * 5 + 3) (by omega)
      have r4 := hrow.cell (i := k * 5 + 4) (by omega)
      rw [mks_0, if_neg (Nat.lt_irrefl k)] at r0
      rw [mks_1, if_neg (Nat.lt_irrefl k)] at r1
      rw [mks_2, if_neg (Nat.lt_irrefl k)] at r2
      rw [mks_3, if_neg (Nat.lt_irrefl k)] at r3
      rw [mks_4, if_neg (Nat.lt_irrefl k)] at r4
      obtain ⟨rfl⟩ := HZ.out.1 (by omega)
      obtain ⟨h0, h1, h2, h3, h4⟩ := (HZ.out.below hbel).2.2.1 k hkm
      have hbl : b < w.heap.size := World.block_lt_of_cell? _ _ (HZ.out.2.2.1 k hkm).1
      have hne : b ≠ w.heap.size := by omega
      have hne' : w.heap.size ≠ b := by omega
      go_wp2
      go_region_held3 (fun w' => w'.cell? ⟨b, off + k * 5, none⟩ = some (.string (F k).id) ∧ w'.cell? ⟨b, off + k * 5 + 1, none⟩ = some (.int .u64 (F k).seq) ∧ w'.cell? ⟨b, off + k * 5 + 2, none⟩ = some (.int .u64 (F k).index) ∧ w'.cell? ⟨b, off + k * 5 + 3, none⟩ = some (.int .u64 (F k).term) ∧ w'.cell? ⟨b, off + k * 5 + 4, none⟩ = some (.int .u64 (F k).time)) (go_keep) (fail)
      go_wp2
      go_roundg (m - (k + 1))
      case measure => omega
      case rel =>
        exact ⟨k + 1, by omega, rfl, by go_num, (mks_set hrow).drew, (((((hbel.setCell (by simp) _).setCell (by simp) _).setCell (by simp) _).setCell (by simp) _).setCell (by simp) _).drew⟩
    · obtain rfl : k = m := by omega
      go_wp2
      go_ret
      exact ⟨_, _, _, rfl, MksAt.of_row (t := 75) hrow HZ.out.2.2.2, Nat.le_refl _, Nat.le_refl _, hbel⟩

theorem frommarks_all (ad : Option Addr) (m cap b off : Nat) (F : Nat → Mk) (w : World) (hm : m ≤ 65536) (hz : MksAt w ad m b off F) : Calls Try.prog 26 #[.slice ad m cap] w (MksPost m F w) := by
  cases ad with
  | none =>
    obtain rfl := hz.2.1 rfl
    exact frommarks_nil cap F w
  | some a => exact frommarks_any a m cap b off F w hm hz

end Go.Proofs.Qxb6604243a
