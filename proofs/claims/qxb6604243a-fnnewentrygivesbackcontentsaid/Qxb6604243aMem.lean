/-
  SLICES OF MEMBERS (four cells an element) AND OF BYTES: zzBytes (13), entryBytes (14), copyBytes (15), toMembers (16).
-/
import Derived.Test.Qxb6604243aSpan
import Derived.Deep.RegionHeld3
namespace Go.Proofs.Qxb6604243a
open Go.RowKit

/-- The members that a slice leads to. -/
def MembersAt (w : World) (ad : Option Addr) (m b off : Nat) (I : Nat → Int) (A : Nat → ByteArray) (V : Nat → Bool) (D : Nat → Int) : Prop :=
  (0 < m → ad = some ⟨b, off, none⟩) ∧ (ad = none → m = 0) ∧ ∀ i, i < m → w.cell? ⟨b, off + i * 4, none⟩ = some (.int .u64 (I i)) ∧ w.cell? ⟨b, off + i * 4 + 1, none⟩ = some (.string (A i)) ∧
    w.cell? ⟨b, off + i * 4 + 2, none⟩ = some (.bool (V i)) ∧ w.cell? ⟨b, off + i * 4 + 3, none⟩ = some (.int .u64 (D i))
/-- The bytes that a slice leads to. -/
def BytesAt (w : World) (ad : Option Addr) (m b off : Nat) (Z : Nat → Int) : Prop :=
  (0 < m → ad = some ⟨b, off, none⟩) ∧ (ad = none → m = 0) ∧ ∀ i, i < m → w.cell? ⟨b, off + i, none⟩ = some (.int .u8 (Z i))
theorem later {w w' : World} {a : Addr} {v : Value} (hb : Below w.heap.size w w') (h : w.cell? a = some v) : w'.cell? a = some v := (hb.cell (World.block_lt_of_cell? _ _ h)).trans h
theorem MembersAt.below {w w' : World} {ad : Option Addr} {m b off : Nat} {I D : Nat → Int} {A : Nat → ByteArray} {V : Nat → Bool} (h : MembersAt w ad m b off I A V D) (hb : Below w.heap.size w w') : MembersAt w' ad m b off I A V D :=
  ⟨h.1, h.2.1, fun i hi => ⟨later hb (h.2.2 i hi).1, later hb (h.2.2 i hi).2.1, later hb (h.2.2 i hi).2.2.1, later hb (h.2.2 i hi).2.2.2⟩⟩
theorem BytesAt.below {w w' : World} {ad : Option Addr} {m b off : Nat} {Z : Nat → Int} (h : BytesAt w ad m b off Z) (hb : Below w.heap.size w w') : BytesAt w' ad m b off Z :=
  ⟨h.1, h.2.1, fun i hi => later hb (h.2.2 i hi)⟩
theorem MembersAt.nil (w : World) (b off : Nat) (I D : Nat → Int) (A : Nat → ByteArray) (V : Nat → Bool) : MembersAt w none 0 b off I A V D :=
  ⟨fun h => absurd h (Nat.lt_irrefl _), fun _ => rfl, fun _ hi => absurd hi (Nat.not_lt_zero _)⟩
theorem BytesAt.nil (w : World) (b off : Nat) (Z : Nat → Int) : BytesAt w none 0 b off Z :=
  ⟨fun h => absurd h (Nat.lt_irrefl _), fun _ => rfl, fun _ hi => absurd hi (Nat.not_lt_zero _)⟩

/-- A callee that only reads and hands back a bool. -/
def SomeBool (w : World) (e : Ending) (w' : World) : Prop := (∃ r : Bool, e = .returned (.bool r)) ∧ w = w'
def SomeInt (w : World) (e : Ending) (w' : World) : Prop := (∃ n : Int, e = .returned (.int .i64 n)) ∧ w = w'

set_option maxHeartbeats 4000000 in
theorem bytes13 (term kind seq cl : Int) (ad md : Option Addr) (n cap m mc b off : Nat) (sid : ByteArray) (I D : Nat → Int) (A : Nat → ByteArray) (V : Nat → Bool) (w : World) (hm : MembersAt w md m b off I A V D) :
    Calls Try.prog 13 #[.int .u64 term, .int .u8 kind, .slice ad n cap, .string sid, .int .u64 seq, .slice md m mc, .int .u64 cl] w (SomeBool w) := by
  have HM := hide hm
  clear hm
  by_cases c1 : n ≤ 1048576
  rotate_left
  · go_enter Try.func13, Try.ntmps13
    go_wp2
    go_ret
    exact ⟨⟨_, rfl⟩, rfl⟩
  by_cases c2 : sid.size ≤ 1048576
  rotate_left
  · go_enter Try.func13, Try.ntmps13
    go_wp2
    go_ret
    exact ⟨⟨_, rfl⟩, rfl⟩
  by_cases c3 : n + sid.size ≤ 1048576
  rotate_left
  · go_enter Try.func13, Try.ntmps13
    go_wp2
    go_ret
    exact ⟨⟨_, rfl⟩, rfl⟩
  by_cases c4 : m ≤ 1048576
  rotate_left
  · go_enter Try.func13, Try.ntmps13
    go_wp2
    go_ret
    exact ⟨⟨_, rfl⟩, rfl⟩
  by_cases c5 : n + sid.size + m ≤ 1048576
  rotate_left
  · go_enter Try.func13, Try.ntmps13
    go_wp2
    go_ret
    exact ⟨⟨_, rfl⟩, rfl⟩
  go_enter Try.func13, Try.ntmps13
  go_wp2
  go_loopg [15, 16] m (fun gg s15 s16 wr => ∃ j s : Nat, j ≤ m ∧ gg = m - j ∧ s ≤ 1048576 ∧ s15 = .int .i64 s ∧ s16 = .int .i64 j ∧ w = wr)
  case atStart => exact ⟨0, n + sid.size + m, Nat.zero_le _, rfl, c5, by go_num, rfl, rfl⟩
  case round =>
    obtain ⟨j, s, hj, rfl, hs, rfl, rfl, rfl⟩ := hrel
    by_cases hjm : j < m
    · have hjz : (j : Int) < (m : Int) := by omega
      obtain ⟨rfl⟩ := HM.out.1 (by omega)
      have h1 := (HM.out.2.2 j hjm).2.1
      by_cases k1 : (A j).size ≤ 1048576
      rotate_left
      · go_wp2
        go_ret
        exact ⟨⟨_, rfl⟩, rfl⟩
      by_cases k2 : s + (A j).size ≤ 1048576
      rotate_left
      · go_wp2
        go_ret
        exact ⟨⟨_, rfl⟩, rfl⟩
      go_wp2
      go_roundg (m - (j + 1))
      case measure => omega
      case rel => exact ⟨j + 1, s + (A j).size, by omega, rfl, k2, by go_num, by go_num, rfl⟩
    · go_wp2
      go_ret
      exact ⟨⟨_, rfl⟩, rfl⟩

set_option maxHeartbeats 4000000 in
theorem entryBytes14 (ad md : Option Addr) (n cap m mc b off : Nat) (sid : ByteArray) (I D : Nat → Int) (A : Nat → ByteArray) (V : Nat → Bool) (w : World) (hm : MembersAt w md m b off I A V D) (c1 : n ≤ 1048576) (c2 : sid.size ≤ 1048576) (c3 : m ≤ 4096) :
    Calls Try.prog 14 #[.slice ad n cap, .string sid, .slice md m mc] w (SomeInt w) := by
  have HM := hide hm
  clear hm
  go_enter Try.func14, Try.ntmps14
  go_wp2
  go_loopg [7, 8] m (fun gg s7 s8 wr => ∃ j s : Nat, j ≤ m ∧ gg = m - j ∧ s ≤ 2097152 ∧ s7 = .int .i64 s ∧ s8 = .int .i64 j ∧ w = wr)
  case atStart => exact ⟨0, n + sid.size, Nat.zero_le _, rfl, by omega, by go_num, rfl, rfl⟩
  case round =>
    obtain ⟨j, s, hj, rfl, hs, rfl, rfl, rfl⟩ := hrel
    by_cases hjm : j < m
    · have hjz : (j : Int) < (m : Int) := by omega
      obtain ⟨rfl⟩ := HM.out.1 (by omega)
      have h1 := (HM.out.2.2 j hjm).2.1
      by_cases k1 : (A j).size ≤ 1048576
      rotate_left
      · go_wp2
        go_ret
        exact ⟨⟨_, rfl⟩, rfl⟩
      by_cases k2 : s + (32 + (A j).size) ≤ 1048576
      rotate_left
      · go_wp2
        go_ret
        exact ⟨⟨_, rfl⟩, rfl⟩
      go_wp2
      go_roundg (m - (j + 1))
      case measure => omega
      case rel => exact ⟨j + 1, s + (32 + (A j).size), by omega, rfl, by omega, by go_num, by go_num, rfl⟩
    · go_wp2
      go_ret
      exact ⟨⟨_, rfl⟩, rfl⟩

/-- What copyBytes leaves. -/
def CopyPost (n : Nat) (Z : Nat → Int) (w : World) (e : Ending) (w' : World) : Prop :=
  ∃ ad g cap, e = .returned (.slice ad n cap) ∧ BytesAt w' ad n g 0 Z ∧ Below w.heap.size w w'

theorem Try.info5 : (Try.prog.info? 5).map (fun i => (i.zero, i.size, i.bytes)) = some (some (.int .u8 0), 1, 1) := by kernel_rfl

theorem copy_nil (cap : Nat) (Z : Nat → Int) (w : World) : Calls Try.prog 15 #[.slice none 0 cap] w (CopyPost 0 Z w) := by
  have q36 : ∀ (w : World) a n c, (binOp .eql 36 (.slice a n c) (.slice none 0 0)).run Try.prog w = .ok (.bool a.isNone) w := fun w a n c => Lib.run_eql_slice_nil w 36 5 a n c 0 0 Try.underlying36
  go_enter Try.func15, Try.ntmps15
  go_wp2
  go_ret
  exact ⟨none, 0, 0, rfl, BytesAt.nil _ _ _ _, Below.refl _ _⟩

set_option maxHeartbeats 4000000 in
theorem copy_any (a : Addr) (m cap b off : Nat) (Z : Nat → Int) (w : World) (hm : m ≤ 1048576) (hz : BytesAt w (some a) m b off Z) : Calls Try.prog 15 #[.slice (some a) m cap] w (CopyPost m Z w) := by
  have q36 : ∀ (w : World) a n c, (binOp .eql 36 (.slice a n c) (.slice none 0 0)).run Try.prog w = .ok (.bool a.isNone) w := fun w a n c => Lib.run_eql_slice_nil w 36 5 a n c 0 0 Try.underlying36
  have hmk := run_make_row' (P := Try.prog) 36 5 (.int .u8 0) 1 Try.underlying36 Try.info5 rfl .i64 .i64 m (by omega) (by omega)
  have hB0 : Below w.heap.size w (w.alloc (.cells (madeCells #[.int .u8 0] m) 5)) := (Below.refl _ _).alloc (Nat.le_refl _) _
  have hR0 : (w.alloc (.cells (madeCells #[.int .u8 0] m) 5)).rowIs w.heap.size 5 m (fun i => if i < 0 then .int .u8 (Z i) else .int .u8 0) := by
    simpa using World.rowIs_made w (.int .u8 0) m 5
  have HZ := hide hz
  clear hz
  go_enter Try.func15, Try.ntmps15
  go_wp2
  clear hmk q36
  go_loopg [4] m (fun g i wr => ∃ k : Nat, k ≤ m ∧ g = m - k ∧ i = .int .i64 k ∧ wr.rowIs w.heap.size 5 m (fun i => if i < k then .int .u8 (Z i) else .int .u8 0) ∧ Below w.heap.size w wr)
  case atStart => exact ⟨0, Nat.zero_le _, rfl, rfl, hR0, hB0⟩
  case round =>
    clear hB0 hR0
    obtain ⟨k, hk, rfl, rfl, hrow, hbel⟩ := hrel
    by_cases hkm : k < m
    · have hkz : (k : Int) < (m : Int) := by omega
      have hfz := hrow.frozen k
      have hs := hrow.cell hkm
      rw [if_neg (Nat.lt_irrefl k)] at hs
      obtain ⟨rfl⟩ := HZ.out.1 (by omega)
      have hcell := (HZ.out.below hbel).2.2 k hkm
      go_wp2
      go_roundg (m - (k + 1))
      case measure => omega
      case rel =>
        refine ⟨k + 1, by omega, rfl, by go_num, (hrow.set k _).congr (fun j _ => ?_), hbel.setCell (by simp) _⟩
        by_cases e : j = k
        · subst e; simp
        · rw [if_neg e]
          by_cases hj : j < k
          · rw [if_pos hj, if_pos (by omega)]
          · rw [if_neg hj, if_neg (by omega)]
    · obtain rfl : k = m := by omega
      go_wp2
      go_ret
      exact ⟨some ⟨w.heap.size, 0, none⟩, w.heap.size, k, rfl, ⟨fun _ => rfl, (fun h => by cases h), fun i hi => by rw [Nat.zero_add]; exact (hrow.cell hi).trans (by rw [if_pos hi])⟩, hbel⟩

theorem copy_all (ad : Option Addr) (m cap b off : Nat) (Z : Nat → Int) (w : World) (hm : m ≤ 1048576) (hz : BytesAt w ad m b off Z) : Calls Try.prog 15 #[.slice ad m cap] w (CopyPost m Z w) := by
  cases ad with
  | none =>
    obtain rfl := hz.2.1 rfl
    exact copy_nil cap Z w
  | some a => exact copy_any a m cap b off Z w hm hz

end Go.Proofs.Qxb6604243a
