/-
  Our program's slices.Sort (its slices' sort at ReplicaID, a uint32), walked: turned to this program from the guide's worked walk of the same function over its toy (WalkA14).
-/
import Derived.Test.Qxb6604102aS13
import Derived.Test.Qxb6604102aSA
import Derived.Test.Qxb6604102aSA6
import Derived.Test.Qxb6604102aSC
import Derived.Test.Qxb6604102aSC4
import Derived.Test.Qxb6604102aS7
import Derived.Test.Qxb6604102aS11
import Derived.Test.Qxb6604102aSL
import Derived.Sort.WalkA14
import Derived.Sort.AssemblyPlain
import Derived.Sort.Walk13
namespace Go.Proofs.Qxb6604102a
open Go.Proofs Go.RowKit Go.Sort

/-- pdqsortOrdered's contract at this program. -/
def pdqWalkU : Prop := ∀ (blk off cap a b limit : Nat) (d : Array Int) (w : World), Holds (Value.int .u32) w blk off d → blk < w.heap.size → a ≤ b → b ≤ d.size → d.size < 4611686018427387904 → limit < 4611686018427387904 → Go.Sort.Below ltInt a b d →
  Calls Try.prog 18 #[.slice (some ⟨blk, off, none⟩) d.size cap, .int .i64 a, .int .i64 b, .int .i64 limit] w fun e w' =>
    e = .returned (.tuple #[]) ∧ ∃ n os, w' = grow (putRow (Value.int .u32) (Sort.ahead w n) blk off (Sort.pdq ltInt d a b limit true true)) os

set_option maxRecDepth 100000 in
theorem Sx.Sort_int (hpdq : pdqWalkU) (blk off cap : Nat) (d : Array Int) (w : World) (hH : Holds (Value.int .u32) w blk off d) (hblk : blk < w.heap.size) (hsz : d.size < 4611686018427387904) :
    Calls Try.prog 17 #[.slice (some ⟨blk, off, none⟩) d.size cap] w fun e w' => e = .returned (.tuple #[]) ∧ ∃ n os, w' = grow (putRow (Value.int .u32) (Sort.ahead w n) blk off (Sort.sort ltInt d)) os := by
  have HH : Hid (Holds (Value.int .u32) w blk off d) := hH
  clear hH
  have hLen : ∀ w, Calls Try.prog 19 #[.int .u64 (d.size : Int)] w fun e w' => e = .returned (.int .i64 (bitsLen d.size : Nat)) ∧ w' = w := fun w => by
    have h := bits_Len (d.size : Int) w (by omega) (by omega)
    rwa [Int.toNat_natCast, bitLen_eq _ (by omega)] at h
  have hk : bitsLen d.size ≤ 62 := (bitsLen_le_iff d.size 62).2 (by omega)
  go_enter Try.func17, Try.ntmps17
  go_wp2_with (first
    | (go_at_call 19; refine (hLen _).mono ?_; rintro e w' ⟨rfl, rfl⟩)
    | (go_at_call 18; refine (hpdq blk off cap 0 d.size (bitsLen d.size) d _ (by exact HH.out) (by exact hblk) (Nat.zero_le _) (Nat.le_refl _) hsz (by omega) (Or.inl rfl)).mono ?_; rintro e w' ⟨rfl, n, os, rfl⟩))
  go_end0
  exact ⟨rfl, n, os, rfl⟩

theorem calleesU : CalleesU where
  ins := Sx.insertionSort_int
  brk := Sx.breakPatterns_int
  piv := Sx.choosePivot_int
  par := Sx.partialInsertionSort_int
  peq := Sx.partitionEqualOrdered_int
  prt := Sx.partitionOrdered_int
theorem plainU : Plain13 where
  swo := swo_ltInt
  ins := insertionSort_holds
  par := partialInsertionSort_holds
  prt := partition_holds _
  peq := partitionEqual_holds _
  pdq := pdq_sorts _
theorem pdqU : pdqWalkU := fun blk off cap a b limit d w hH hb hab hbd hsz hl hB =>
  Sx.pdqsort_int calleesU plainU (b - a + 1) blk off cap a b limit d w (by omega) hH hb hab hbd hsz hl hB

/-- slices.Sort at []ReplicaID. -/
theorem sort17 (blk off cap : Nat) (zs : List Int) (w : World) (hH : Holds (Value.int .u32) w blk off zs.toArray) (hblk : blk < w.heap.size) (hsz : zs.length < 4611686018427387904) :
    Calls Try.prog 17 #[.slice (some ⟨blk, off, none⟩) zs.length cap] w fun e w' =>
      e = .returned (.tuple #[]) ∧ ∃ n os, w' = grow (putRow (Value.int .u32) (Sort.ahead w n) blk off (zs.mergeSort fun x y => decide (x ≤ y)).toArray) os := by
  have h := Sx.Sort_int pdqU blk off cap zs.toArray w hH hblk (by simpa using hsz)
  rw [← sortInt zs]
  simpa using h
end Go.Proofs.Qxb6604102a
