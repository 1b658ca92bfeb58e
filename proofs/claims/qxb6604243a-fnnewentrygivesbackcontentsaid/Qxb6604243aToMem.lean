/-
  toMembers (16): the members copied.
-/
import Derived.Test.Qxb6604243aMem
namespace Go.Proofs.Qxb6604243a
open Go.RowKit

theorem Try.info62 : (Try.prog.info? 62).map (fun i => (i.zero, i.size, i.bytes)) = some (some (.agg #[.int .u64 0, .string ByteArray.empty, .bool false, .int .u64 0]), 4, 40) := by kernel_rfl

/-- A row of members, cell by cell: the first k are told, the others zero. -/
def mems (I : Nat → Int) (A : Nat → ByteArray) (V : Nat → Bool) (D : Nat → Int) (k : Nat) : Nat → Value := fun j =>
  if j % 4 = 0 then .int .u64 (if j / 4 < k then I (j / 4) else 0) else if j % 4 = 1 then .string (if j / 4 < k then A (j / 4) else ByteArray.empty)
  else if j % 4 = 2 then .bool (if j / 4 < k then V (j / 4) else false) else .int .u64 (if j / 4 < k then D (j / 4) else 0)
section
variable (I : Nat → Int) (A : Nat → ByteArray) (V : Nat → Bool) (D : Nat → Int)
theorem mems_0 (k i : Nat) : mems I A V D k (i * 4) = .int .u64 (if i < k then I i else 0) := by
  simp [mems]
theorem mems_1 (k i : Nat) : mems I A V D k (i * 4 + 1) = .string (if i < k then A i else ByteArray.empty) := by
  have h1 : (i * 4 + 1) % 4 = 1 := by omega
  have h2 : (i * 4 + 1) / 4 = i := by omega
  simp [mems, h1, h2]
theorem mems_2 (k i : Nat) : mems I A V D k (i * 4 + 2) = .bool (if i < k then V i else false) := by
  have h1 : (i * 4 + 2) % 4 = 2 := by omega
  have h2 : (i * 4 + 2) / 4 = i := by omega
  simp [mems, h1, h2]
theorem mems_3 (k i : Nat) : mems I A V D k (i * 4 + 3) = .int .u64 (if i < k then D i else 0) := by
  have h1 : (i * 4 + 3) % 4 = 3 := by omega
  have h2 : (i * 4 + 3) / 4 = i := by omega
  simp [mems, h1, h2]
theorem quarter (j : Nat) : ∃ i, j = i * 4 ∨ j = i * 4 + 1 ∨ j = i * 4 + 2 ∨ j = i * 4 + 3 := ⟨j / 4, by omega⟩
theorem mems_made (w : World) (n : Nat) (t : TypeId) : (w.alloc (.cells (madeCells #[.int .u64 0, .string ByteArray.empty, .bool false, .int .u64 0] (n * 4)) t)).rowIs w.heap.size t (n * 4) (mems I A V D 0) := by
  refine ⟨_, Deep.blk_alloc_new _ _, size_madeCells _ _, fun i hi => ?_⟩
  obtain ⟨q, rfl | rfl | rfl | rfl⟩ := quarter i
  · rw [mems_0]; simp [madeCells, hi]
  · rw [mems_1]
    have h1 : (q * 4 + 1) % 4 = 1 := by omega
    simp [madeCells, hi, h1]
  · rw [mems_2]
    have h1 : (q * 4 + 2) % 4 = 2 := by omega
    simp [madeCells, hi, h1]
  · rw [mems_3]
    have h1 : (q * 4 + 3) % 4 = 3 := by omega
    simp [madeCells, hi, h1]
variable {I A V D}
theorem mems_set {w : World} {b : Nat} {t : TypeId} {n k : Nat} (h : w.rowIs b t n (mems I A V D k)) :
    ((((w.setCell ⟨b, k * 4, none⟩ (.int .u64 (I k))).setCell ⟨b, k * 4 + 1, none⟩ (.string (A k))).setCell ⟨b, k * 4 + 2, none⟩ (.bool (V k))).setCell ⟨b, k * 4 + 3, none⟩ (.int .u64 (D k))).rowIs b t n (mems I A V D (k + 1)) := by
  refine ((((h.set _ _).set _ _).set _ _).set _ _).congr fun j _ => ?_
  obtain ⟨q, rfl | rfl | rfl | rfl⟩ := quarter j
  · rw [mems_0, mems_0]
    by_cases e : q = k
    · subst e
      rw [if_neg (by omega), if_neg (by omega), if_neg (by omega), if_pos rfl, if_pos (by omega)]
    · rw [if_neg (by omega), if_neg (by omega), if_neg (by omega), if_neg (by omega)]
      have : q < k ↔ q < k + 1 := by omega
      simp [this]
  · rw [mems_1, mems_1]
    by_cases e : q = k
    · subst e
      rw [if_neg (by omega), if_neg (by omega), if_pos rfl, if_pos (by omega)]
    · rw [if_neg (by omega), if_neg (by omega), if_neg (by omega), if_neg (by omega)]
      have : q < k ↔ q < k + 1 := by omega
      simp [this]
  · rw [mems_2, mems_2]
    by_cases e : q = k
    · subst e
      rw [if_neg (by omega), if_pos rfl, if_pos (by omega)]
    · rw [if_neg (by omega), if_neg (by omega), if_neg (by omega), if_neg (by omega)]
      have : q < k ↔ q < k + 1 := by omega
      simp [this]
  · rw [mems_3, mems_3]
    by_cases e : q = k
    · subst e
      rw [if_pos rfl, if_pos (by omega)]
    · rw [if_neg (by omega), if_neg (by omega), if_neg (by omega), if_neg (by omega)]
      have : q < k ↔ q < k + 1 := by omega
      simp [this]
theorem MembersAt.of_row {w : World} {b : Nat} {t : TypeId} {n : Nat} (h : w.rowIs b t (n * 4) (mems I A V D n)) : MembersAt w (some ⟨b, 0, none⟩) n b 0 I A V D :=
  ⟨fun _ => rfl, (fun h => by cases h), fun i hi => ⟨by rw [Nat.zero_add, h.cell (by omega), mems_0, if_pos hi], by rw [Nat.zero_add, h.cell (by omega), mems_1, if_pos hi],
    by rw [Nat.zero_add, h.cell (by omega), mems_2, if_pos hi], by rw [Nat.zero_add, h.cell (by omega), mems_3, if_pos hi]⟩⟩
end

/-- What toMembers leaves. -/
def MemPost (m : Nat) (I : Nat → Int) (A : Nat → ByteArray) (V : Nat → Bool) (D : Nat → Int) (w : World) (e : Ending) (w' : World) : Prop :=
  ∃ ad g cap, e = .returned (.slice ad m cap) ∧ MembersAt w' ad m g 0 I A V D ∧ Below w.heap.size w w'

theorem members_nil (cap : Nat) (I : Nat → Int) (A : Nat → ByteArray) (V : Nat → Bool) (D : Nat → Int) (w : World) : Calls Try.prog 16 #[.slice none 0 cap] w (MemPost 0 I A V D w) := by
  have q37 : ∀ (w : World) a n c, (binOp .eql 37 (.slice a n c) (.slice none 0 0)).run Try.prog w = .ok (.bool a.isNone) w := fun w a n c => Lib.run_eql_slice_nil w 37 64 a n c 0 0 Try.underlying37
  go_enter Try.func16, Try.ntmps16
  go_wp2
  go_ret
  exact ⟨none, 0, 0, rfl, MembersAt.nil _ _ _ _ _ _ _, Below.refl _ _⟩

set_option maxHeartbeats 4000000 in
theorem members_any (a : Addr) (m cap b off : Nat) (I : Nat → Int) (A : Nat → ByteArray) (V : Nat → Bool) (D : Nat → Int) (w : World) (hm : m ≤ 4096) (hz : MembersAt w (some a) m b off I A V D) : Calls Try.prog 16 #[.slice (some a) m cap] w (MemPost m I A V D w) := by
  have q37 : ∀ (w : World) a n c, (binOp .eql 37 (.slice a n c) (.slice none 0 0)).run Try.prog w = .ok (.bool a.isNone) w := fun w a n c => Lib.run_eql_slice_nil w 37 64 a n c 0 0 Try.underlying37
  have hmk := run_make_cells (P := Try.prog) 41 62 _ _ 4 40 Try.underlying41 Try.info62 rfl .i64 .i64 m (by omega) (by omega)
  have hB0 : Below w.heap.size w (w.alloc (.cells (madeCells #[.int .u64 0, .string ByteArray.empty, .bool false, .int .u64 0] (m * 4)) 62)) := (Below.refl _ _).alloc (Nat.le_refl _) _
  have hR0 := mems_made I A V D w m 62
  have HB0 := hide hB0
  have HR0 := hide hR0
  have HZ := hide hz
  clear hz hB0 hR0
  go_enter Try.func16, Try.ntmps16
  go_wp2
  clear hmk q37
  go_loopg [4] m (fun g i wr => ∃ k : Nat, k ≤ m ∧ g = m - k ∧ i = .int .i64 k ∧ wr.rowIs w.heap.size 62 (m * 4) (mems I A V D k) ∧ Below w.heap.size w wr)
  case atStart => exact ⟨0, Nat.zero_le _, rfl, rfl, HR0.out, HB0.out⟩
  case round =>
    clear HB0 HR0
    obtain ⟨k, hk, rfl, rfl, hrow, hbel⟩ := hrel
    by_cases hkm : k < m
    · have hkz : (k : Int) < (m : Int) := by omega
      have f0 := hrow.frozen (k * 4)
      have f1 := hrow.frozen (k * 4 + 1)
      have f2 := hrow.frozen (k * 4 + 2)
      have f3 := hrow.frozen (k * 4 + 3)
      have r0 := hrow.cell (i := k * 4) (by omega)
      have r1 := hrow.cell (i := k * 4 + 1) (by omega)
      have r2 := hrow.cell (i := k * 4 + 2) (by omega)
      have r3 := hrow.cell (i := k * 4 + 3) (by omega)
      rw [mems_0, if_neg (Nat.lt_irrefl k)] at r0
      rw [mems_1, if_neg (Nat.lt_irrefl k)] at r1
      rw [mems_2, if_neg (Nat.lt_irrefl k)] at r2
      rw [mems_3, if_neg (Nat.lt_irrefl k)] at r3
      obtain ⟨rfl⟩ := HZ.out.1 (by omega)
      obtain ⟨h0, h1, h2, h3⟩ := (HZ.out.below hbel).2.2 k hkm
      have hbl : b < w.heap.size := World.block_lt_of_cell? _ _ (HZ.out.2.2 k hkm).1
      have hne : b ≠ w.heap.size := by omega
      have hne' : w.heap.size ≠ b := by omega
      go_wp2
      go_region_held3 (fun w' => w'.cell? ⟨b, off + k * 4, none⟩ = some (.int .u64 (I k)) ∧ w'.cell? ⟨b, off + k * 4 + 1, none⟩ = some (.string (A k)) ∧ w'.cell? ⟨b, off + k * 4 + 2, none⟩ = some (.bool (V k)) ∧ w'.cell? ⟨b, off + k * 4 + 3, none⟩ = some (.int .u64 (D k))) (go_keep) (fail)
      go_wp2
      go_roundg (m - (k + 1))
      case measure => omega
      case rel =>
        exact ⟨k + 1, by omega, rfl, by go_num, (mems_set hrow).drew, ((((hbel.setCell (by simp) _).setCell (by simp) _).setCell (by simp) _).setCell (by simp) _).drew⟩
    · obtain rfl : k = m := by omega
      go_wp2
      go_ret
      exact ⟨_, _, _, rfl, MembersAt.of_row (t := 62) hrow, hbel⟩

theorem members_all (ad : Option Addr) (m cap b off : Nat) (I : Nat → Int) (A : Nat → ByteArray) (V : Nat → Bool) (D : Nat → Int) (w : World) (hm : m ≤ 4096) (hz : MembersAt w ad m b off I A V D) : Calls Try.prog 16 #[.slice ad m cap] w (MemPost m I A V D w) := by
  cases ad with
  | none =>
    obtain rfl := hz.2.1 rfl
    exact members_nil cap I A V D w
  | some a => exact members_any a m cap b off I A V D w hm hz

end Go.Proofs.Qxb6604243a
