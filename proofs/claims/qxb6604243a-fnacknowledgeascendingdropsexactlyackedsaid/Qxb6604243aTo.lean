/-
  toZZ (10): the fields as they are, the spans copied.
-/
import Derived.Test.Qxb6604243aSpan
namespace Go.Proofs.Qxb6604243a
open Go.RowKit

theorem tozz_nil (x0 x1 x2 x3 : Int) (b4 b5 : Bool) (x7 x8 x9 x10 x11 x12 : Int) (cap : Nat) (E B : Nat → Int) (w : World) :
    Calls Try.prog 10 #[.agg #[.int .u64 x0, .int .u64 x1, .int .u64 x2, .int .u64 x3, .bool b4, .bool b5, .slice none 0 cap, .int .i64 x7, .int .u64 x8, .int .u64 x9, .int .u64 x10, .int .u64 x11, .int .u64 x12]] w
      (ConvPost x0 x1 x2 x3 b4 b5 0 x7 x8 x9 x10 x11 x12 E B w) := by
  have q23 : ∀ (w : World) a n c, (binOp .neq 23 (.slice a n c) (.slice none 0 0)).run Try.prog w = .ok (.bool (!a.isNone)) w := fun w a n c => run_neq_slice_nil_any w 23 34 a n c 0 0 Try.underlying23
  go_enter Try.func10, Try.ntmps10
  go_wp2
  refine bodyPost_ret (v := .agg #[.int .u64 x0, .int .u64 x1, .int .u64 x2, .int .u64 x3, .bool b4, .bool b5, .slice none 0 0, .int .i64 x7, .int .u64 x8, .int .u64 x9, .int .u64 x10, .int .u64 x11, .int .u64 x12])
    (by simp [results, Try.results10, go_sem]) rfl ⟨none, w.heap.size, 0, rfl, SpansAt.nil _ _ _ _ _, Nat.le_refl _, ?_⟩
  exact ((Below.refl _ _).alloc (Nat.le_refl _) _).alloc (by simp) _

set_option maxHeartbeats 4000000 in
theorem tozz_any (x0 x1 x2 x3 : Int) (b4 b5 : Bool) (x7 x8 x9 x10 x11 x12 : Int) (a : Addr) (m cap b off : Nat) (E B : Nat → Int) (w : World) (hm : m ≤ 4096) (hs : SpansAt w (some a) m b off E B) :
    Calls Try.prog 10 #[.agg #[.int .u64 x0, .int .u64 x1, .int .u64 x2, .int .u64 x3, .bool b4, .bool b5, .slice (some a) m cap, .int .i64 x7, .int .u64 x8, .int .u64 x9, .int .u64 x10, .int .u64 x11, .int .u64 x12]] w
      (ConvPost x0 x1 x2 x3 b4 b5 m x7 x8 x9 x10 x11 x12 E B w) := by
  have q23 : ∀ (w : World) a n c, (binOp .neq 23 (.slice a n c) (.slice none 0 0)).run Try.prog w = .ok (.bool (!a.isNone)) w := fun w a n c => run_neq_slice_nil_any w 23 34 a n c 0 0 Try.underlying23
  have hmk := run_make_cells (P := Try.prog) 28 76 _ _ 2 16 Try.underlying28 Try.info76 rfl .i64 .i64 m (by omega) (by omega)
  have HS := hide hs
  clear hs
  have hP0 := ((ProgAt.new w 25 x0 x1 x2 x3 b4 b5 (.slice (some a) m cap) x7 x8 x9 x10 x11 x12).alloc (.cells #[.int .u64 0, .int .u64 0, .int .u64 0, .int .u64 0, .bool false, .bool false, .slice none 0 0, .int .i64 0, .int .u64 0, .int .u64 0, .int .u64 0, .int .u64 0, .int .u64 0] 30)).alloc (.cells (madeCells #[.int .u64 0, .int .i64 0] (m * 2)) 76)
  have hZ0 := (ProgAt.new (w.alloc (.cells #[.int .u64 x0, .int .u64 x1, .int .u64 x2, .int .u64 x3, .bool b4, .bool b5, .slice (some a) m cap, .int .i64 x7, .int .u64 x8, .int .u64 x9, .int .u64 x10, .int .u64 x11, .int .u64 x12] 25)) 30 0 0 0 0 false false (.slice none 0 0) 0 0 0 0 0 0).alloc (.cells (madeCells #[.int .u64 0, .int .i64 0] (m * 2)) 76)
  have hR0 := spans_made ((w.alloc (.cells #[.int .u64 x0, .int .u64 x1, .int .u64 x2, .int .u64 x3, .bool b4, .bool b5, .slice (some a) m cap, .int .i64 x7, .int .u64 x8, .int .u64 x9, .int .u64 x10, .int .u64 x11, .int .u64 x12] 25)).alloc (.cells #[.int .u64 0, .int .u64 0, .int .u64 0, .int .u64 0, .bool false, .bool false, .slice none 0 0, .int .i64 0, .int .u64 0, .int .u64 0, .int .u64 0, .int .u64 0, .int .u64 0] 30)) m 76 E B
  simp only [World.size_alloc] at hZ0 hR0
  have HP0 := hide hP0
  have HZ0 := hide hZ0
  have HR0 := hide hR0
  clear hP0 hZ0 hR0
  go_enter Try.func10, Try.ntmps10
  go_wp2
  clear hmk q23
  go_loopg [4] m (fun g i wr => ∃ k : Nat, k ≤ m ∧ g = m - k ∧ i = .int .i64 k ∧ wr.rowIs (w.heap.size + 1 + 1) 76 (m * 2) (spans E B k) ∧ Below w.heap.size w wr ∧ ProgAt wr w.heap.size 25 x0 x1 x2 x3 b4 b5 (.slice (some a) m cap) x7 x8 x9 x10 x11 x12 ∧
    ProgAt wr (w.heap.size + 1) 30 0 0 0 0 false false (.slice none 0 0) 0 0 0 0 0 0)
  case atStart =>
    exact ⟨0, Nat.zero_le _, rfl, rfl, HR0.out, (((Below.refl _ _).alloc (Nat.le_refl _) _).alloc (by simp) _).alloc (by simp; omega) _, HP0.out, HZ0.out⟩
  case round =>
    clear HP0 HZ0 HR0
    obtain ⟨k, hk, rfl, rfl, hrow, hbel, hP, hZ⟩ := hrel
    have HP := hide hP
    have HZ := hide hZ
    by_cases hkm : k < m
    · have hkz : (k : Int) < (m : Int) := by omega
      have c6 := hP.cell6
      obtain ⟨rfl⟩ := HS.out.1 (by omega)
      obtain ⟨h1, h2⟩ := (HS.out.below hbel).2.2 k hkm
      have r1 := hrow.cell (i := k * 2) (by omega)
      have r2 := hrow.cell (i := k * 2 + 1) (by omega)
      rw [spans_fst'] at r1
      rw [spans_snd'] at r2
      have f1 := hrow.frozen (k * 2)
      have f2 := hrow.frozen (k * 2 + 1)
      clear hP hZ
      go_wp2
      go_region
      go_wp2
      go_roundg (m - (k + 1))
      case measure => omega
      case rel =>
        refine ⟨k + 1, by omega, rfl, by go_num, spans_set hrow, ((hbel.setCell (by simp; omega) _).setCell (by simp; omega) _).drew, (HP.out.setCell _ (by simp; omega)).setCell _ (by simp; omega), (HZ.out.setCell _ (by simp)).setCell _ (by simp)⟩
    · obtain rfl : k = m := by omega
      obtain ⟨p0, p1, p2, p3, p4, p5, p6, p7, p8, p9, p10, p11, p12⟩ := hP.cells
      obtain ⟨z0, z1, z2, z3, z4, z5, z6, z7, z8, z9, z10, z11, z12⟩ := hZ.cells
      have fz := hZ.frozen
      clear hP hZ HP HZ HS
      go_wp2
      refine bodyPost_ret (v := .agg #[.int .u64 x0, .int .u64 x1, .int .u64 x2, .int .u64 x3, .bool b4, .bool b5, .slice (some ⟨w.heap.size + 1 + 1, 0, none⟩) k k, .int .i64 x7, .int .u64 x8, .int .u64 x9, .int .u64 x10, .int .u64 x11, .int .u64 x12])
        (by simp [results, Try.results10, go_sem, z0, z1, z2, z3, z4, z5, z6, z7, z8, z9, z10, z11, z12]) rfl ⟨_, _, _, rfl, SpansAt.of_row (t := 76) ?_, by omega, ?_⟩
      · repeat (refine World.rowIs.setOther ?_ (by simp) _)
        exact hrow
      · repeat (refine Below.setCell ?_ (by simp) _)
        exact hbel

end Go.Proofs.Qxb6604243a
