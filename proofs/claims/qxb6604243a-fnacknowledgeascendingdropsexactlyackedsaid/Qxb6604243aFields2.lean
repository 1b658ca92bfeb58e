/-
  zzProgressFields (32): the fields behind the pointer, the spans copied: where the slice is not nil.
-/
import Derived.Test.Qxb6604243aSpan
import Derived.Deep.RegionHeld3
namespace Go.Proofs.Qxb6604243a
open Go.RowKit

set_option maxHeartbeats 4000000 in
theorem fields_any (x0 x1 x2 x3 : Int) (b4 b5 : Bool) (x7 x8 x9 x10 x11 x12 : Int) (h : Nat) (a : Addr) (m cap b off : Nat) (E B : Nat → Int) (w : World) (hm : m ≤ 4096) (hs : SpansAt w (some a) m b off E B)
    (hp : ProgAt w h 94 x0 x1 x2 x3 b4 b5 (.slice (some a) m cap) x7 x8 x9 x10 x11 x12) :
    Calls Try.prog 32 #[.pointer (some ⟨h, 0, none⟩)] w (ConvPost x0 x1 x2 x3 b4 b5 m x7 x8 x9 x10 x11 x12 E B w) := by
  have q90 : ∀ (w : World) a n c, (binOp .neq 90 (.slice a n c) (.slice none 0 0)).run Try.prog w = .ok (.bool (!a.isNone)) w := fun w a n c => run_neq_slice_nil_any w 90 92 a n c 0 0 Try.underlying90
  have hmk := run_make_cells (P := Try.prog) 28 76 _ _ 2 16 Try.underlying28 Try.info76 rfl .i64 .i64 m (by omega) (by omega)
  have HS := hide hs
  clear hs
  have hlt := hp.lt
  have c6 := hp.cell6
  have hP0 := (hp.alloc (.cells #[.int .u64 0, .int .u64 0, .int .u64 0, .int .u64 0, .bool false, .bool false, .slice none 0 0, .int .i64 0, .int .u64 0, .int .u64 0, .int .u64 0, .int .u64 0, .int .u64 0] 30)).alloc (.cells (madeCells #[.int .u64 0, .int .i64 0] (m * 2)) 76)
  have hZ0 := (ProgAt.new w 30 0 0 0 0 false false (.slice none 0 0) 0 0 0 0 0 0).alloc (.cells (madeCells #[.int .u64 0, .int .i64 0] (m * 2)) 76)
  have hR0 := spans_made (w.alloc (.cells #[.int .u64 0, .int .u64 0, .int .u64 0, .int .u64 0, .bool false, .bool false, .slice none 0 0, .int .i64 0, .int .u64 0, .int .u64 0, .int .u64 0, .int .u64 0, .int .u64 0] 30)) m 76 E B
  simp only [World.size_alloc] at hR0
  have HP0 := hide hP0
  have HZ0 := hide hZ0
  have HR0 := hide hR0
  clear hP0 hZ0 hR0 hp
  go_enter Try.func32, Try.ntmps32
  go_wp2
  clear hmk q90 c6
  go_loopg [4] m (fun g i wr => ∃ k : Nat, k ≤ m ∧ g = m - k ∧ i = .int .i64 k ∧ wr.rowIs (w.heap.size + 1) 76 (m * 2) (spans E B k) ∧ Below w.heap.size w wr ∧ ProgAt wr h 94 x0 x1 x2 x3 b4 b5 (.slice (some a) m cap) x7 x8 x9 x10 x11 x12 ∧
    ProgAt wr w.heap.size 30 0 0 0 0 false false (.slice none 0 0) 0 0 0 0 0 0)
  case atStart =>
    exact ⟨0, Nat.zero_le _, rfl, rfl, HR0.out, ((Below.refl _ _).alloc (Nat.le_refl _) _).alloc (by simp) _, HP0.out, HZ0.out⟩
  case round =>
    clear HP0 HR0 HZ0
    obtain ⟨k, hk, rfl, rfl, hrow, hbel, hP, hZ⟩ := hrel
    have HP := hide hP
    have HZ := hide hZ
    by_cases hkm : k < m
    · have hkz : (k : Int) < (m : Int) := by omega
      have c6 := hP.cell6
      obtain ⟨rfl⟩ := HS.out.1 (by omega)
      obtain ⟨h1, h2⟩ := (HS.out.below hbel).2.2 k hkm
      have r1 := hrow.cell (i := k * 2) (by omega)
      have r2 := hrow.cell (i := k * 2 + 1) (by omega)
      rw [spans_fst'] at r1
      rw [spans_snd'] at r2
      have f1 := hrow.frozen (k * 2)
      have f2 := hrow.frozen (k * 2 + 1)
      clear hP hZ
      go_wp2
      go_region
      go_wp2
      go_roundg (m - (k + 1))
      case measure => omega
      case rel =>
        refine ⟨k + 1, by omega, rfl, by go_num, spans_set hrow, ((hbel.setCell (by simp) _).setCell (by simp) _).drew, (HP.out.setCell _ (by simp; omega)).setCell _ (by simp; omega), (HZ.out.setCell _ (by simp)).setCell _ (by simp)⟩
    · obtain rfl : k = m := by omega
      have c6 := hP.cell6
      clear hP hZ HS
      go_wp2
      obtain ⟨p0, p1, p2, p3, p4, p5, p6, p7, p8, p9, p10, p11, p12⟩ := HP.out.cells
      obtain ⟨z0, z1, z2, z3, z4, z5, z6, z7, z8, z9, z10, z11, z12⟩ := HZ.out.cells
      have fz := HZ.out.frozen
      have fz0 := fz 0
      have fz1 := fz 1
      have fz2 := fz 2
      have fz3 := fz 3
      have fz4 := fz 4
      have fz5 := fz 5
      have fz6 := fz 6
      have fz7 := fz 7
      have fz8 := fz 8
      have fz9 := fz 9
      have fz10 := fz 10
      have fz11 := fz 11
      have fz12 := fz 12
      clear fz
      have hne : h ≠ w.heap.size := by omega
      have hne' : w.heap.size ≠ h := by omega
      go_region_held3 (fun w' => w'.cell? ⟨h, 0, none⟩ = some (.int .u64 x0) ∧ w'.cell? ⟨h, 1, none⟩ = some (.int .u64 x1) ∧ w'.cell? ⟨h, 2, none⟩ = some (.int .u64 x2) ∧ w'.cell? ⟨h, 3, none⟩ = some (.int .u64 x3) ∧
        w'.cell? ⟨h, 4, none⟩ = some (.bool b4) ∧ w'.cell? ⟨h, 5, none⟩ = some (.bool b5) ∧ w'.cell? ⟨h, 7, none⟩ = some (.int .i64 x7) ∧ w'.cell? ⟨h, 8, none⟩ = some (.int .u64 x8) ∧
        w'.cell? ⟨h, 9, none⟩ = some (.int .u64 x9) ∧ w'.cell? ⟨h, 10, none⟩ = some (.int .u64 x10) ∧ w'.cell? ⟨h, 11, none⟩ = some (.int .u64 x11) ∧ w'.cell? ⟨h, 12, none⟩ = some (.int .u64 x12)) (go_keep) (fail)
      go_wp2
      refine bodyPost_ret (v := .agg #[.int .u64 x0, .int .u64 x1, .int .u64 x2, .int .u64 x3, .bool b4, .bool b5, .slice (some ⟨w.heap.size + 1, 0, none⟩) k k, .int .i64 x7, .int .u64 x8, .int .u64 x9, .int .u64 x10, .int .u64 x11, .int .u64 x12])
        (by simp [results, Try.results32, go_sem, z0, z1, z2, z3, z4, z5, z6, z7, z8, z9, z10, z11, z12]) rfl ⟨_, _, _, rfl, SpansAt.of_row (t := 76) ?_, by omega, ?_⟩
      · refine World.rowIs.drew ?_
        repeat (refine World.rowIs.setOther ?_ (by simp) _)
        exact hrow
      · refine Below.drew ?_
        repeat (refine Below.setCell ?_ (by simp) _)
        exact hbel

end Go.Proofs.Qxb6604243a
