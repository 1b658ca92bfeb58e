/-
  zzProgressOf (30): a new progress of the fields, the spans copied.
-/
import Derived.Test.Qxb6604243aSpan
namespace Go.Proofs.Qxb6604243a
open Go.RowKit

/-- What zzProgressOf leaves: a pointer to a new block with the fields; the spans in a block of their own. -/
def OfPost (x0 x1 x2 x3 : Int) (b4 b5 : Bool) (m : Nat) (x7 x8 x9 x10 x11 x12 : Int) (E B : Nat → Int) (w : World) (e : Ending) (w' : World) : Prop :=
  ∃ h ad g cap, e = .returned (.pointer (some ⟨h, 0, none⟩)) ∧ ProgAt w' h 94 x0 x1 x2 x3 b4 b5 (.slice ad m cap) x7 x8 x9 x10 x11 x12 ∧ SpansAt w' ad m g 0 E B ∧ ((ad = none ∧ m = 0 ∧ cap = 0) ∨ ad = some ⟨g, 0, none⟩) ∧ h ≠ g ∧ m ≤ cap ∧ w.heap.size ≤ h ∧ Below w.heap.size w w'

theorem of_nil (x0 x1 x2 x3 : Int) (b4 b5 : Bool) (x7 x8 x9 x10 x11 x12 : Int) (cap : Nat) (E B : Nat → Int) (w : World) :
    Calls Try.prog 30 #[.agg #[.int .u64 x0, .int .u64 x1, .int .u64 x2, .int .u64 x3, .bool b4, .bool b5, .slice none 0 cap, .int .i64 x7, .int .u64 x8, .int .u64 x9, .int .u64 x10, .int .u64 x11, .int .u64 x12]] w
      (OfPost x0 x1 x2 x3 b4 b5 0 x7 x8 x9 x10 x11 x12 E B w) := by
  have q28 : ∀ (w : World) a n c, (binOp .neq 28 (.slice a n c) (.slice none 0 0)).run Try.prog w = .ok (.bool (!a.isNone)) w := fun w a n c => run_neq_slice_nil_any w 28 76 a n c 0 0 Try.underlying28
  have hP0 := ProgAt.new (w.alloc (.cells #[.int .u64 x0, .int .u64 x1, .int .u64 x2, .int .u64 x3, .bool b4, .bool b5, .slice none 0 cap, .int .i64 x7, .int .u64 x8, .int .u64 x9, .int .u64 x10, .int .u64 x11, .int .u64 x12] 30)) 94 x0 x1 x2 x3 b4 b5 (.slice none 0 0) x7 x8 x9 x10 x11 x12
  simp only [World.size_alloc] at hP0
  have HP0 := hide hP0
  clear hP0
  go_enter Try.func30, Try.ntmps30
  go_wp2
  go_ret
  exact ⟨w.heap.size + 1, none, w.heap.size, 0, rfl, HP0.out, SpansAt.nil _ _ _ _ _, .inl ⟨rfl, rfl, rfl⟩, by omega, Nat.le_refl _, by omega, ((Below.refl _ _).alloc (Nat.le_refl _) _).alloc (by simp) _⟩

set_option maxHeartbeats 4000000 in
theorem of_any (x0 x1 x2 x3 : Int) (b4 b5 : Bool) (x7 x8 x9 x10 x11 x12 : Int) (a : Addr) (m cap b off : Nat) (E B : Nat → Int) (w : World) (hm : m ≤ 4096) (hs : SpansAt w (some a) m b off E B) :
    Calls Try.prog 30 #[.agg #[.int .u64 x0, .int .u64 x1, .int .u64 x2, .int .u64 x3, .bool b4, .bool b5, .slice (some a) m cap, .int .i64 x7, .int .u64 x8, .int .u64 x9, .int .u64 x10, .int .u64 x11, .int .u64 x12]] w
      (OfPost x0 x1 x2 x3 b4 b5 m x7 x8 x9 x10 x11 x12 E B w) := by
  have q28 : ∀ (w : World) a n c, (binOp .neq 28 (.slice a n c) (.slice none 0 0)).run Try.prog w = .ok (.bool (!a.isNone)) w := fun w a n c => run_neq_slice_nil_any w 28 76 a n c 0 0 Try.underlying28
  have hmk := run_make_cells (P := Try.prog) 90 92 _ _ 2 16 Try.underlying90 Try.info92 rfl .i64 .i64 m (by omega) (by omega)
  have HS := hide hs
  clear hs
  have hP0 := (ProgAt.new w 30 x0 x1 x2 x3 b4 b5 (.slice (some a) m cap) x7 x8 x9 x10 x11 x12).alloc (.cells (madeCells #[.int .u64 0, .int .i64 0] (m * 2)) 92)
  have hR0 := spans_made (w.alloc (.cells #[.int .u64 x0, .int .u64 x1, .int .u64 x2, .int .u64 x3, .bool b4, .bool b5, .slice (some a) m cap, .int .i64 x7, .int .u64 x8, .int .u64 x9, .int .u64 x10, .int .u64 x11, .int .u64 x12] 30)) m 92 E B
  simp only [World.size_alloc] at hR0
  have HP0 := hide hP0
  have HR0 := hide hR0
  clear hP0 hR0
  go_enter Try.func30, Try.ntmps30
  go_wp2
  clear hmk q28
  go_loopg [4] m (fun g i wr => ∃ k : Nat, k ≤ m ∧ g = m - k ∧ i = .int .i64 k ∧ wr.rowIs (w.heap.size + 1) 92 (m * 2) (spans E B k) ∧ Below w.heap.size w wr ∧ ProgAt wr w.heap.size 30 x0 x1 x2 x3 b4 b5 (.slice (some a) m cap) x7 x8 x9 x10 x11 x12)
  case atStart =>
    exact ⟨0, Nat.zero_le _, rfl, rfl, HR0.out, ((Below.refl _ _).alloc (Nat.le_refl _) _).alloc (by simp) _, HP0.out⟩
  case round =>
    clear HP0 HR0
    obtain ⟨k, hk, rfl, rfl, hrow, hbel, hP⟩ := hrel
    have HP := hide hP
    by_cases hkm : k < m
    · have hkz : (k : Int) < (m : Int) := by omega
      have c6 := hP.cell6
      obtain ⟨rfl⟩ := HS.out.1 (by omega)
      obtain ⟨h1, h2⟩ := (HS.out.below hbel).2.2 k hkm
      have r1 := hrow.cell (i := k * 2) (by omega)
      have r2 := hrow.cell (i := k * 2 + 1) (by omega)
      rw [spans_fst'] at r1
      rw [spans_snd'] at r2
      have f1 := hrow.frozen (k * 2)
      have f2 := hrow.frozen (k * 2 + 1)
      clear hP
      go_wp2
      go_region
      go_wp2
      go_roundg (m - (k + 1))
      case measure => omega
      case rel =>
        refine ⟨k + 1, by omega, rfl, by go_num, spans_set hrow, ((hbel.setCell (by simp) _).setCell (by simp) _).drew, (HP.out.setCell _ (by simp)).setCell _ (by simp)⟩
    · obtain rfl : k = m := by omega
      obtain ⟨p0, p1, p2, p3, p4, p5, p6, p7, p8, p9, p10, p11, p12⟩ := hP.cells
      have hlt := hrow.lt
      have HN : Hid (ProgAt (wr.alloc (.cells #[.int .u64 x0, .int .u64 x1, .int .u64 x2, .int .u64 x3, .bool b4, .bool b5, .slice (some ⟨w.heap.size + 1, 0, none⟩) k k, .int .i64 x7, .int .u64 x8, .int .u64 x9, .int .u64 x10, .int .u64 x11, .int .u64 x12] 94)) wr.heap.size 94 x0 x1 x2 x3 b4 b5 (.slice (some ⟨w.heap.size + 1, 0, none⟩) k k) x7 x8 x9 x10 x11 x12) := ProgAt.new _ _ _ _ _ _ _ _ _ _ _ _ _ _ _
      clear hP HP HS
      go_wp2
      go_ret
      exact ⟨wr.heap.size, _, _, _, rfl, HN.out, SpansAt.of_row (t := 92) (hrow.alloc _), .inr rfl, by omega, Nat.le_refl _, hbel.size, hbel.alloc hbel.size _⟩

end Go.Proofs.Qxb6604243a
