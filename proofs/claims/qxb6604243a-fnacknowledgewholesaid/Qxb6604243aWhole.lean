/-
  THE WALK of 'FnAcknowledgeWhole' (3).
-/
import Derived.Test.Qxb6604243aCommon
namespace Go.Proofs.Qxb6604243a
open Go.RowKit

set_option maxRecDepth 100000 in
set_option maxHeartbeats 8000000 in
theorem whole_main (x0 x1 x2 x3 : Int) (b4 b5 : Bool) (x7 x8 x9 x10 x11 x12 : Int) (ad : Option Addr) (m cap b off : Nat) (E B : Nat → Int) (ack : Int) (cnt : Bool) (w : World) (hm : m ≤ 4096) (h7 : wrap64 x7 = x7) (hs : SpansAt w ad m b off E B) :
    Calls Try.prog 3 #[.agg #[.int .u64 x0, .int .u64 x1, .int .u64 x2, .int .u64 x3, .bool b4, .bool b5, .slice ad m cap, .int .i64 x7, .int .u64 x8, .int .u64 x9, .int .u64 x10, .int .u64 x11, .int .u64 x12], .int .u64 ack, .bool cnt] w (Good w) := by
  have t1 : decide ((4096 : Int) < (m : Int)) = false := by simp; omega
  have H7 := hide h7
  have HS := hide hs
  clear h7 hs
  have hP0 := ProgAt.new w 25 x0 x1 x2 x3 b4 b5 (.slice ad m cap) x7 x8 x9 x10 x11 x12
  have hB0 : Below w.heap.size w (w.alloc (.cells #[.int .u64 x0, .int .u64 x1, .int .u64 x2, .int .u64 x3, .bool b4, .bool b5, .slice ad m cap, .int .i64 x7, .int .u64 x8, .int .u64 x9, .int .u64 x10, .int .u64 x11, .int .u64 x12] 25)) := (Below.refl _ _).alloc (Nat.le_refl _) _
  have HP0 := hide hP0
  have HB0 := hide hB0
  clear hP0 hB0
  go_enter Try.func3, Try.ntmps3
  go_wp2_with fail
  generalize w.alloc (.cells #[.int .u64 x0, .int .u64 x1, .int .u64 x2, .int .u64 x3, .bool b4, .bool b5, .slice ad m cap, .int .i64 x7, .int .u64 x8, .int .u64 x9, .int .u64 x10, .int .u64 x11, .int .u64 x12] 25) = w0 at HP0 HB0 ⊢
  refine (bytes7_yes x0 x1 x2 x3 b4 b5 x7 x8 x9 x10 x11 x12 ad m cap ack cnt w0 (by omega)).mono ?_
  rintro e w1 ⟨rfl, hb1⟩
  have hP1 := HP0.out.below hb1
  obtain ⟨p0, p1, p2, p3, p4, p5, p6, p7, p8, p9, p10, p11, p12⟩ := hP1.cells
  have HP1 := hide hP1
  have HB1 : Hid (Below w.heap.size w w1) := HB0.out.trans (hb1.mono HB0.out.size)
  clear hP1 hb1 HP0 HB0
  go_wp2_with fail
  refine (tozz_all x0 x1 x2 x3 b4 b5 x7 x8 x9 x10 x11 x12 ad m cap b off E B w1 hm (HS.out.below HB1.out)).mono ?_
  rintro e w2 ⟨ad2, g2, cap2, rfl, hS2, _, hb2⟩
  have HS2 := hide hS2
  have hP2 := HP1.out.below hb2
  have HP2 := hide hP2
  have HB2 : Hid (Below w.heap.size w w2) := HB1.out.trans (hb2.mono HB1.out.size)
  clear hS2 hP2 hb2 HP1 HB1 p0 p1 p2 p3 p4 p5 p6 p7 p8 p9 p10 p11 p12
  go_wp2_with fail
  refine (zz_any x0 x1 x2 x3 b4 b5 x7 x8 x9 x10 x11 x12 ad2 m cap2 g2 0 E B ack cnt w2 hm H7.out HS2.out).mono ?_
  rintro e w3 ⟨k, ad3, g3, cap3, rfl, hk, hE, hEk, hS3, hb3⟩
  have HS3 := hide hS3
  have HE := hide hE
  have HEk := hide hEk
  have hP3 := HP2.out.below hb3
  have HP3 := hide hP3
  have HB3 : Hid (Below w.heap.size w w3) := HB2.out.trans (hb3.mono HB2.out.size)
  clear hS3 hE hEk hP3 hb3 HP2 HB2 HS2
  go_wp2_with fail
  refine (fromzz_all (newSent b4 x0 ack) (newAcked cnt x1 ack) x2 x3 true false (wrap64 (x7 - sumTo B k)) x8 x9 0 0 0 ad3 (m - k) cap3 g3 0 _ _ w3 (by omega) HS3.out).mono ?_
  rintro e w4 ⟨ad4, g4, cap4, rfl, hS4, _, hb4⟩
  have HS4 := hide hS4
  have hP4 := HP3.out.below hb4
  have HP4 := hide hP4
  have HB4 : Hid (Below w.heap.size w w4) := HB3.out.trans (hb4.mono HB3.out.size)
  clear hS4 hP4 hb4 HP3 HB3 HS3 t1
  obtain ⟨r, rfl⟩ : ∃ r, m = k + r := ⟨m - k, by omega⟩
  rw [Nat.add_sub_cancel_left] at HS4 ⊢
  obtain ⟨sn, hsn⟩ : ∃ sn, sn = newSent b4 x0 ack := ⟨_, rfl⟩
  obtain ⟨an, han⟩ : ∃ an, an = newAcked cnt x1 ack := ⟨_, rfl⟩
  obtain ⟨yn, hyn⟩ : ∃ yn, yn = wrap64 (x7 - sumTo B k) := ⟨_, rfl⟩
  rw [← hsn, ← han, ← hyn]
  have HYN := hide hyn
  clear hyn
  have hways : (b4 = false ∧ (sn != ack) = false) ∨ (b4 = true ∧ ack < x0 ∧ (sn != x0) = false) ∨ (b4 = true ∧ ¬ ack < x0 ∧ (sn != ack) = false) := by
    subst hsn
    cases b4
    · exact .inl ⟨rfl, by simp [newSent]⟩
    · by_cases hx : ack < x0
      · exact .inr (.inl ⟨rfl, hx, by simp [newSent, hx]⟩)
      · exact .inr (.inr ⟨rfl, hx, by simp [newSent, hx]⟩)
  have hcw : (cnt = true ∧ (an != ack) = false) ∨ (cnt = false ∧ (an != x1) = false) := by
    subst han
    cases cnt
    · exact .inr ⟨rfl, by simp [newAcked]⟩
    · exact .inl ⟨rfl, by simp [newAcked]⟩
  clear hsn han
  -- what the loops will read, said of the world that they begin in
  have HBW : Hid (Below w.heap.size w (w4.alloc (.cells #[.int .u64 sn, .int .u64 an, .int .u64 x2, .int .u64 x3, .bool true, .bool false, .slice ad4 r cap4, .int .i64 yn, .int .u64 x8, .int .u64 x9, .int .u64 0, .int .u64 0, .int .u64 0] 25))) := HB4.out.alloc HB4.out.size _
  have HPW := hide (HP4.out.alloc (.cells #[.int .u64 sn, .int .u64 an, .int .u64 x2, .int .u64 x3, .bool true, .bool false, .slice ad4 r cap4, .int .i64 yn, .int .u64 x8, .int .u64 x9, .int .u64 0, .int .u64 0, .int .u64 0] 25))
  have HGW := hide (ProgAt.new w4 25 sn an x2 x3 true false (.slice ad4 r cap4) yn x8 x9 0 0 0)
  have HS4W : Hid (SpansAt (w4.alloc (.cells #[.int .u64 sn, .int .u64 an, .int .u64 x2, .int .u64 x3, .bool true, .bool false, .slice ad4 r cap4, .int .i64 yn, .int .u64 x8, .int .u64 x9, .int .u64 0, .int .u64 0, .int .u64 0] 25)) ad4 r g4 0 (fun i => E (k + i)) (fun i => B (k + i))) := HS4.out.below ((Below.refl _ _).alloc (Nat.le_refl _) _)
  have HSW : Hid (SpansAt (w4.alloc (.cells #[.int .u64 sn, .int .u64 an, .int .u64 x2, .int .u64 x3, .bool true, .bool false, .slice ad4 r cap4, .int .i64 yn, .int .u64 x8, .int .u64 x9, .int .u64 0, .int .u64 0, .int .u64 0] 25)) ad (k + r) b off E B) := HS.out.below HBW.out
  rcases hways with ⟨rfl, hsn⟩ | ⟨rfl, hx, hsn⟩ | ⟨rfl, hx, hsn⟩ <;> rcases hcw with ⟨rfl, hcn⟩ | ⟨rfl, hcn⟩
  all_goals
    obtain ⟨p0, p1, p2, p3, p4, p5, p6, p7, p8, p9, p10, p11, p12⟩ := HP4.out.cells
    have hlt := HP4.out.lt
    clear HP4 HB4 HS4 HS
    go_wp2
    clear p0 p1 p2 p3 p4 p5 p6 p7 p8 p9 p10 p11 p12 hsn hcn
    generalize w4.alloc (.cells #[.int .u64 sn, .int .u64 an, .int .u64 x2, .int .u64 x3, .bool true, .bool false, .slice ad4 r cap4, .int .i64 yn, .int .u64 x8, .int .u64 x9, .int .u64 0, .int .u64 0, .int .u64 0] 25) = w5 at HBW HPW HGW HS4W HSW ⊢
    have p6 := HPW.out.cell6
    have p7 := HPW.out.cells.2.2.2.2.2.2.2.1
    have q6 := HGW.out.cell6
    have q7 := HGW.out.cells.2.2.2.2.2.2.2.1
    clear HPW HGW
    go_loopg [12, 13] k (fun gg s12 s13 wr => ∃ j : Nat, j ≤ k ∧ gg = k - j ∧ s12 = .int .i64 (wrap64 (sumTo B j)) ∧ s13 = .int .i64 j ∧ wr = w5)
    case atStart => exact ⟨0, Nat.zero_le _, rfl, by simp [sumTo, wrap64], rfl, rfl⟩
    case round =>
      obtain ⟨j, hj, rfl, rfl, rfl, rfl⟩ := hrel
      by_cases hjk : j < k
      · have hjz : (j : Int) < (k : Int) := by omega
        have hjz' : (j : Int) < (k : Int) + (r : Int) := by omega
        obtain ⟨rfl⟩ := HSW.out.1 (by omega)
        obtain ⟨h1, h2⟩ := HSW.out.2.2 j (by omega)
        have hEj := HE.out j hjk
        obtain ⟨y, hy⟩ : ∃ y, y = wrap64 (sumTo B j) := ⟨_, rfl⟩
        rw [← hy]
        have HY := hide hy
        clear hy
        go_wp2
        go_roundg (k - (j + 1))
        case measure => omega
        case rel =>
          have e := HY.out
          subst e
          exact ⟨j + 1, by omega, rfl, by rw [wrap_step']; rfl, by go_num, rfl⟩
      · obtain rfl : j = k := by omega
        obtain ⟨y, hy⟩ : ∃ y, y = wrap64 (sumTo B j) := ⟨_, rfl⟩
        rw [← hy]
        have HY := hide hy
        clear hy
        obtain ⟨wl, rfl⟩ : ∃ wl : World, wl = wr := ⟨_, rfl⟩
        have hr : (decide ((j : Int) < (j : Int) + (r : Int)) = false ∧ (r : Int) ≤ 0) ∨ ((j : Int) < (j : Int) + (r : Int) ∧ ad = some ⟨b, off, none⟩ ∧ wl.cell? ⟨b, off + j * 2, none⟩ = some (.int .u64 (E j)) ∧ ack < E j) := by
          by_cases h0 : r = 0
          · exact .inl ⟨by simp [h0], by omega⟩
          · exact .inr ⟨by omega, HSW.out.1 (by omega), (HSW.out.2.2 j (by omega)).1, HEk.out (by omega)⟩
        have hn34 := neq34
        have hgd := Try.guard34
        rcases hr with ⟨hd, hr0⟩ | ⟨hr0, rfl, hcj, hEj⟩
        · have hrz : 0 ≤ (r : Int) := by omega
          go_wp2
          go_loopg [14] r (fun gg s14 wr => ∃ i : Nat, i ≤ r ∧ gg = r - i ∧ s14 = .int .i64 i ∧ Below wl.heap.size wl wr)
          case atStart => exact ⟨0, Nat.zero_le _, rfl, rfl, Below.refl _ _⟩
          case round =>
            obtain ⟨i, hi, rfl, rfl, hb⟩ := hrel
            have q6' := (hb.cell (World.block_lt_of_cell? _ _ q6)).trans q6
            by_cases hir : i < r
            · omega
            · have hiz : decide ((i : Int) < (r : Int)) = false := by simp; omega
              have p7' := (hb.cell (World.block_lt_of_cell? _ _ p7)).trans p7
              have q7' := (hb.cell (World.block_lt_of_cell? _ _ q7)).trans q7
              clear p7 q7 q6 p6
              go_wp2
              go_ret
              refine ⟨?_, HBW.out.trans (hb.mono HBW.out.size)⟩
              rw [HYN.out, HY.out, wrap_end]
              simp
        · have hrz : 0 ≤ (r : Int) := by omega
          go_wp2
          go_loopg [14] r (fun gg s14 wr => ∃ i : Nat, i ≤ r ∧ gg = r - i ∧ s14 = .int .i64 i ∧ Below wl.heap.size wl wr)
          case atStart => exact ⟨0, Nat.zero_le _, rfl, rfl, Below.refl _ _⟩
          case round =>
            obtain ⟨i, hi, rfl, rfl, hb⟩ := hrel
            have q6' := (hb.cell (World.block_lt_of_cell? _ _ q6)).trans q6
            by_cases hir : i < r
            · have hiz : (i : Int) < (r : Int) := by omega
              have hiz' : (j : Int) + (i : Int) < (j : Int) + (r : Int) := by omega
              obtain ⟨h1, h2⟩ := (HSW.out.below hb).2.2 (j + i) (by omega)
              obtain ⟨h3, h4⟩ := (HS4W.out.below hb).2.2 i hir
              obtain rfl := HS4W.out.1 (by omega)
              simp only [Nat.zero_add] at h3 h4
              clear p6 p7 q6 q7
              go_wp2
              go_quiet (fail)
              go_wp2
              go_roundg (r - (i + 1))
              case measure => omega
              case rel => exact ⟨i + 1, by omega, rfl, by go_num, below_drewN hb _⟩
            · have hiz : decide ((i : Int) < (r : Int)) = false := by simp; omega
              have p7' := (hb.cell (World.block_lt_of_cell? _ _ p7)).trans p7
              have q7' := (hb.cell (World.block_lt_of_cell? _ _ q7)).trans q7
              clear p7 q7 q6 p6
              go_wp2
              go_ret
              refine ⟨?_, HBW.out.trans (hb.mono HBW.out.size)⟩
              rw [HYN.out, HY.out, wrap_end]
              simp

end Go.Proofs.Qxb6604243a
