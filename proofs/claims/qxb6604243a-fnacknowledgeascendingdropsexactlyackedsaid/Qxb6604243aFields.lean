/-
  zzProgressFields (32): the fields behind the pointer, the spans copied.
-/
import Derived.Test.Qxb6604243aSpan
import Derived.Deep.RegionHeld3
namespace Go.Proofs.Qxb6604243a
open Go.RowKit

set_option maxHeartbeats 4000000 in
theorem fields_nil (x0 x1 x2 x3 : Int) (b4 b5 : Bool) (x7 x8 x9 x10 x11 x12 : Int) (h cap : Nat) (E B : Nat → Int) (w : World) (hp : ProgAt w h 94 x0 x1 x2 x3 b4 b5 (.slice none 0 cap) x7 x8 x9 x10 x11 x12) :
    Calls Try.prog 32 #[.pointer (some ⟨h, 0, none⟩)] w (ConvPost x0 x1 x2 x3 b4 b5 0 x7 x8 x9 x10 x11 x12 E B w) := by
  have q90 : ∀ (w : World) a n c, (binOp .neq 90 (.slice a n c) (.slice none 0 0)).run Try.prog w = .ok (.bool (!a.isNone)) w := fun w a n c => run_neq_slice_nil_any w 90 92 a n c 0 0 Try.underlying90
  have hP := hp.alloc (.cells #[.int .u64 0, .int .u64 0, .int .u64 0, .int .u64 0, .bool false, .bool false, .slice none 0 0, .int .i64 0, .int .u64 0, .int .u64 0, .int .u64 0, .int .u64 0, .int .u64 0] 30)
  have hZ := ProgAt.new w 30 0 0 0 0 false false (.slice none 0 0) 0 0 0 0 0 0
  have hb : Below w.heap.size w (w.alloc (.cells #[.int .u64 0, .int .u64 0, .int .u64 0, .int .u64 0, .bool false, .bool false, .slice none 0 0, .int .i64 0, .int .u64 0, .int .u64 0, .int .u64 0, .int .u64 0, .int .u64 0] 30)) := (Below.refl _ _).alloc (Nat.le_refl _) _
  have hlt := hp.lt
  have HP := hide hP
  have HZ := hide hZ
  have HB := hide hb
  have c6 := hP.cell6
  clear hP hZ hb hp
  go_enter Try.func32, Try.ntmps32
  go_wp2
  clear c6 q90
  generalize w.alloc (.cells #[.int .u64 0, .int .u64 0, .int .u64 0, .int .u64 0, .bool false, .bool false, .slice none 0 0, .int .i64 0, .int .u64 0, .int .u64 0, .int .u64 0, .int .u64 0, .int .u64 0] 30) = wr at HP HZ HB ⊢
  obtain ⟨p0, p1, p2, p3, p4, p5, p6, p7, p8, p9, p10, p11, p12⟩ := HP.out.cells
  obtain ⟨z0, z1, z2, z3, z4, z5, z6, z7, z8, z9, z10, z11, z12⟩ := HZ.out.cells
  have fz := HZ.out.frozen
  have fz0 := fz 0
  have fz1 := fz 1
  have fz2 := fz 2
  have fz3 := fz 3
  have fz4 := fz 4
  have fz5 := fz 5
  have fz6 := fz 6
  have fz7 := fz 7
  have fz8 := fz 8
  have fz9 := fz 9
  have fz10 := fz 10
  have fz11 := fz 11
  have fz12 := fz 12
  clear fz
  have hne : h ≠ w.heap.size := by omega
  have hne' : w.heap.size ≠ h := by omega
  go_region_held3 (fun w' => w'.cell? ⟨h, 0, none⟩ = some (.int .u64 x0) ∧ w'.cell? ⟨h, 1, none⟩ = some (.int .u64 x1) ∧ w'.cell? ⟨h, 2, none⟩ = some (.int .u64 x2) ∧ w'.cell? ⟨h, 3, none⟩ = some (.int .u64 x3) ∧
    w'.cell? ⟨h, 4, none⟩ = some (.bool b4) ∧ w'.cell? ⟨h, 5, none⟩ = some (.bool b5) ∧ w'.cell? ⟨h, 7, none⟩ = some (.int .i64 x7) ∧ w'.cell? ⟨h, 8, none⟩ = some (.int .u64 x8) ∧
    w'.cell? ⟨h, 9, none⟩ = some (.int .u64 x9) ∧ w'.cell? ⟨h, 10, none⟩ = some (.int .u64 x10) ∧ w'.cell? ⟨h, 11, none⟩ = some (.int .u64 x11) ∧ w'.cell? ⟨h, 12, none⟩ = some (.int .u64 x12)) (go_keep) (fail)
  go_wp2
  refine bodyPost_ret (v := .agg #[.int .u64 x0, .int .u64 x1, .int .u64 x2, .int .u64 x3, .bool b4, .bool b5, .slice none 0 0, .int .i64 x7, .int .u64 x8, .int .u64 x9, .int .u64 x10, .int .u64 x11, .int .u64 x12])
    (by simp [results, Try.results32, go_sem, z0, z1, z2, z3, z4, z5, z6, z7, z8, z9, z10, z11, z12]) rfl ⟨none, w.heap.size, 0, rfl, SpansAt.nil _ _ _ _ _, Nat.le_refl _, ?_⟩
  refine Below.drew ?_
  repeat (refine Below.setCell ?_ (by simp) _)
  exact HB.out

end Go.Proofs.Qxb6604243a
