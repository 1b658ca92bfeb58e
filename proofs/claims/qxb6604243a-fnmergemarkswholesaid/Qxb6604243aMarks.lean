/-
  SESSION MARKS: five cells an element. smBytes (24), zzBytes (23).
-/
import Derived.Test.Qxb6604243aSpan
import Derived.Deep.RegionHeld3
namespace Go.Proofs.Qxb6604243a
open Go.RowKit

/-- A session's mark. -/
structure Mk where
  id : ByteArray
  seq : Int
  index : Int
  term : Int
  time : Int

/-- The marks that a slice leads to. -/
def MksAt (w : World) (ad : Option Addr) (m b off : Nat) (F : Nat → Mk) : Prop :=
  (0 < m → ad = some ⟨b, off, none⟩) ∧ (ad = none → m = 0) ∧ (∀ i, i < m → w.cell? ⟨b, off + i * 5, none⟩ = some (.string (F i).id) ∧ w.cell? ⟨b, off + i * 5 + 1, none⟩ = some (.int .u64 (F i).seq) ∧
    w.cell? ⟨b, off + i * 5 + 2, none⟩ = some (.int .u64 (F i).index) ∧ w.cell? ⟨b, off + i * 5 + 3, none⟩ = some (.int .u64 (F i).term) ∧ w.cell? ⟨b, off + i * 5 + 4, none⟩ = some (.int .u64 (F i).time)) ∧
  ∀ i, i < m → (F i).id.size ≤ 9223372036854775807
theorem lat {w w' : World} {a : Addr} {v : Value} (hb : Below w.heap.size w w') (h : w.cell? a = some v) : w'.cell? a = some v := (hb.cell (World.block_lt_of_cell? _ _ h)).trans h
theorem MksAt.below {w w' : World} {ad : Option Addr} {m b off : Nat} {F : Nat → Mk} (h : MksAt w ad m b off F) (hb : Below w.heap.size w w') : MksAt w' ad m b off F :=
  ⟨h.1, h.2.1, fun i hi => have k := h.2.2.1 i hi; ⟨lat hb k.1, lat hb k.2.1, lat hb k.2.2.1, lat hb k.2.2.2.1, lat hb k.2.2.2.2⟩, h.2.2.2⟩
theorem MksAt.nil (w : World) (b off : Nat) (F : Nat → Mk) : MksAt w none 0 b off F :=
  ⟨fun h => absurd h (Nat.lt_irrefl _), fun _ => rfl, fun _ hi => absurd hi (Nat.not_lt_zero _), fun _ hi => absurd hi (Nat.not_lt_zero _)⟩

/-- A callee that only reads and hands back a bool, an int. -/
def AnyBool (w : World) (e : Ending) (w' : World) : Prop := (∃ r : Bool, e = .returned (.bool r)) ∧ w = w'
def AnyInt (w : World) (e : Ending) (w' : World) : Prop := (∃ n : Nat, n ≤ 4194304 ∧ e = .returned (.int .i64 n)) ∧ w = w'

set_option maxHeartbeats 4000000 in
theorem smBytes24 (ad : Option Addr) (m mc b off : Nat) (F : Nat → Mk) (w : World) (hm : MksAt w ad m b off F) (c3 : m ≤ 4096) :
    Calls Try.prog 24 #[.slice ad m mc] w (AnyInt w) := by
  have HM := hide hm
  clear hm
  go_enter Try.func24, Try.ntmps24
  go_wp2
  go_loopg [3, 4] m (fun gg s3 s4 wr => ∃ j s : Nat, j ≤ m ∧ gg = m - j ∧ s ≤ 1048576 ∧ s3 = .int .i64 s ∧ s4 = .int .i64 j ∧ w = wr)
  case atStart => exact ⟨0, 0, Nat.zero_le _, rfl, by omega, rfl, rfl, rfl⟩
  case round =>
    obtain ⟨j, s, hj, rfl, hs, rfl, rfl, rfl⟩ := hrel
    by_cases hjm : j < m
    · have hjz : (j : Int) < (m : Int) := by omega
      obtain ⟨rfl⟩ := HM.out.1 (by omega)
      have h1 := (HM.out.2.2.1 j hjm).1
      by_cases k1 : (F j).id.size ≤ 1048576
      rotate_left
      · go_wp2
        go_ret
        exact ⟨⟨1048577, by omega, rfl⟩, rfl⟩
      by_cases k2 : s + (32 + (F j).id.size) ≤ 1048576
      rotate_left
      · go_wp2
        go_ret
        exact ⟨⟨s + (32 + (F j).id.size), by omega, by simp⟩, rfl⟩
      go_wp2
      go_roundg (m - (j + 1))
      case measure => omega
      case rel => exact ⟨j + 1, s + (32 + (F j).id.size), by omega, rfl, by omega, by go_num, by go_num, rfl⟩
    · go_wp2
      go_ret
      exact ⟨⟨s, by omega, rfl⟩, rfl⟩

set_option maxHeartbeats 4000000 in
theorem bytes23 (ad nd : Option Addr) (m mc b off n nc nb no : Nat) (F G : Nat → Mk) (w : World) (hm : MksAt w ad m b off F) (hn : MksAt w nd n nb no G) :
    Calls Try.prog 23 #[.slice ad m mc, .slice nd n nc] w (AnyBool w) := by
  have HM := hide hm
  have HN := hide hn
  clear hm hn
  by_cases c1 : m ≤ 1048576
  rotate_left
  · go_enter Try.func23, Try.ntmps23
    go_wp2
    go_ret
    exact ⟨⟨_, rfl⟩, rfl⟩
  go_enter Try.func23, Try.ntmps23
  go_wp2
  go_loopg [5, 6] m (fun gg s5 s6 wr => ∃ j s : Nat, j ≤ m ∧ gg = m - j ∧ s ≤ 1048576 ∧ s5 = .int .i64 s ∧ s6 = .int .i64 j ∧ w = wr)
  case atStart => exact ⟨0, m, Nat.zero_le _, rfl, c1, rfl, rfl, rfl⟩
  case round =>
    obtain ⟨j, s, hj, rfl, hs, rfl, rfl, rfl⟩ := hrel
    by_cases hjm : j < m
    · have hjz : (j : Int) < (m : Int) := by omega
      obtain ⟨rfl⟩ := HM.out.1 (by omega)
      have h1 := (HM.out.2.2.1 j hjm).1
      by_cases k1 : (F j).id.size ≤ 1048576
      rotate_left
      · go_wp2
        go_ret
        exact ⟨⟨_, rfl⟩, rfl⟩
      by_cases k2 : s + (F j).id.size ≤ 1048576
      rotate_left
      · go_wp2
        go_ret
        exact ⟨⟨_, rfl⟩, rfl⟩
      go_wp2
      go_roundg (m - (j + 1))
      case measure => omega
      case rel => exact ⟨j + 1, s + (F j).id.size, by omega, rfl, k2, by go_num, by go_num, rfl⟩
    · by_cases d1 : n ≤ 1048576
      rotate_left
      · go_wp2
        go_ret
        exact ⟨⟨_, rfl⟩, rfl⟩
      by_cases d2 : s + n ≤ 1048576
      rotate_left
      · go_wp2
        go_ret
        exact ⟨⟨_, rfl⟩, rfl⟩
      go_wp2
      go_loopg [5, 7] n (fun gg s5 s7 wr => ∃ j s : Nat, j ≤ n ∧ gg = n - j ∧ s ≤ 1048576 ∧ s5 = .int .i64 s ∧ s7 = .int .i64 j ∧ w = wr)
      case atStart => exact ⟨0, s + n, Nat.zero_le _, rfl, d2, by go_num, rfl, rfl⟩
      case round =>
        clear hj hs hjm
        obtain ⟨j, s, hj, rfl, hs, rfl, rfl, rfl⟩ := hrel
        by_cases hjm : j < n
        · have hjz : (j : Int) < (n : Int) := by omega
          obtain ⟨rfl⟩ := HN.out.1 (by omega)
          have h1 := (HN.out.2.2.1 j hjm).1
          by_cases k1 : (G j).id.size ≤ 1048576
          rotate_left
          · go_wp2
            go_ret
            exact ⟨⟨_, rfl⟩, rfl⟩
          by_cases k2 : s + (G j).id.size ≤ 1048576
          rotate_left
          · go_wp2
            go_ret
            exact ⟨⟨_, rfl⟩, rfl⟩
          go_wp2
          go_roundg (n - (j + 1))
          case measure => omega
          case rel => exact ⟨j + 1, s + (G j).id.size, by omega, rfl, k2, by go_num, by go_num, rfl⟩
        · go_wp2
          go_ret
          exact ⟨⟨_, rfl⟩, rfl⟩

end Go.Proofs.Qxb6604243a
