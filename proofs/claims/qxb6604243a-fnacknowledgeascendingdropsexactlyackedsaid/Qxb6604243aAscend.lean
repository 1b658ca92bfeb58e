/-
  THE WALK of 'FnAcknowledgeAscendingDropsExactlyAcked' (4), and spansAscend (12).
-/
import Derived.Test.Qxb6604243aCommon
namespace Go.Proofs.Qxb6604243a
open Go.RowKit

/-- What spansAscend leaves. -/
def AscPost (m : Nat) (E : Nat → Int) (w : World) (e : Ending) (w' : World) : Prop :=
  ∃ r : Bool, e = .returned (.bool r) ∧ (r = true → ∀ i, i + 1 < m → E i ≤ E (i + 1)) ∧ Below w.heap.size w w'
theorem AscPost.no {m : Nat} {E : Nat → Int} {w w' : World} (hb : Below w.heap.size w w') : AscPost m E w (.returned (.bool false)) w' := ⟨false, rfl, (fun h => by cases h), hb⟩
theorem AscPost.yes {m : Nat} {E : Nat → Int} {w w' : World} (h : ∀ i, i + 1 < m → E i ≤ E (i + 1)) (hb : Below w.heap.size w w') : AscPost m E w (.returned (.bool true)) w' := ⟨true, rfl, fun _ => h, hb⟩

set_option maxHeartbeats 4000000 in
theorem ascend_any (ad : Option Addr) (m cap b off : Nat) (E B : Nat → Int) (w : World) (hm : m ≤ 4096) (hs : SpansAt w ad m b off E B) :
    Calls Try.prog 12 #[.slice ad m cap] w (AscPost m E w) := by
  have HS := hide hs
  clear hs
  go_enter Try.func12, Try.ntmps12
  go_wp2
  go_loopg [3] m (fun gg s3 wr => ∃ j : Nat, 1 ≤ j ∧ (j ≤ m ∨ j = 1) ∧ gg = m + 1 - j ∧ s3 = .int .i64 j ∧ (∀ i, i + 1 < j → E i ≤ E (i + 1)) ∧ Below w.heap.size w wr)
  case atStart => exact ⟨1, Nat.le_refl _, .inr rfl, by omega, rfl, fun i hi => by omega, Below.refl _ _⟩
  case round =>
    obtain ⟨j, hj1, hj, rfl, rfl, hE, hb⟩ := hrel
    have HE := hide hE
    clear hE
    by_cases hjm : j < m
    · obtain ⟨t, rfl⟩ : ∃ t, j = t + 1 := ⟨j - 1, by omega⟩
      have hz1 : (t : Int) + 1 < (m : Int) := by omega
      have hz2 : (t : Int) < (m : Int) := by omega
      obtain ⟨rfl⟩ := HS.out.1 (by omega)
      have h1 := ((HS.out.below hb).2.2 t (by omega)).1
      have h2 := ((HS.out.below hb).2.2 (t + 1) (by omega)).1
      clear hj1 hj
      by_cases hlt : E (t + 1) < E t
      · go_wp2
        go_quiet (fail)
        go_wp2
        go_ret
        exact AscPost.no (below_drewN hb _)
      · have hge : E t ≤ E (t + 1) := by omega
        go_wp2
        go_quiet (fail)
        go_wp2
        go_roundg (m + 1 - (t + 1 + 1))
        case measure => omega
        case rel =>
          refine ⟨t + 1 + 1, by omega, .inl (by omega), rfl, by go_num, fun i hi => ?_, below_drewN hb _⟩
          by_cases e : i = t
          · subst e; exact hge
          · exact HE.out i (by omega)
    · have hz : decide ((j : Int) < (m : Int)) = false := by simp; omega
      clear hj1 hj
      go_wp2
      go_ret
      exact AscPost.yes (fun i hi => HE.out i (by omega)) hb

theorem asc_lt {m k : Nat} {E : Nat → Int} {ack : Int} (h : ∀ i, i + 1 < m → E i ≤ E (i + 1)) (_hk : k < m) (h0 : ack < E k) : ∀ c, k + c < m → ack < E (k + c)
  | 0, _ => h0
  | c + 1, hc => Int.lt_of_lt_of_le (asc_lt h _hk h0 c (by omega)) (h (k + c) (by omega))

set_option maxRecDepth 100000 in
set_option maxHeartbeats 8000000 in
theorem ascend_main (x0 x1 x2 x3 : Int) (b4 b5 : Bool) (x7 x8 x9 x10 x11 x12 : Int) (ad : Option Addr) (m cap b off : Nat) (E B : Nat → Int) (ack : Int) (cnt : Bool) (w : World) (hm : m ≤ 4096) (h7 : wrap64 x7 = x7) (hs : SpansAt w ad m b off E B) :
    Calls Try.prog 4 #[.agg #[.int .u64 x0, .int .u64 x1, .int .u64 x2, .int .u64 x3, .bool b4, .bool b5, .slice ad m cap, .int .i64 x7, .int .u64 x8, .int .u64 x9, .int .u64 x10, .int .u64 x11, .int .u64 x12], .int .u64 ack, .bool cnt] w (Good w) := by
  have t1 : decide ((4096 : Int) < (m : Int)) = false := by simp; omega
  have H7 := hide h7
  have HS := hide hs
  clear h7 hs
  have hP0 := ProgAt.new w 25 x0 x1 x2 x3 b4 b5 (.slice ad m cap) x7 x8 x9 x10 x11 x12
  have hB0 : Below w.heap.size w (w.alloc (.cells #[.int .u64 x0, .int .u64 x1, .int .u64 x2, .int .u64 x3, .bool b4, .bool b5, .slice ad m cap, .int .i64 x7, .int .u64 x8, .int .u64 x9, .int .u64 x10, .int .u64 x11, .int .u64 x12] 25)) := (Below.refl _ _).alloc (Nat.le_refl _) _
  have HP0 := hide hP0
  have HB0 := hide hB0
  clear hP0 hB0
  go_enter Try.func4, Try.ntmps4
  go_wp2_with fail
  generalize w.alloc (.cells #[.int .u64 x0, .int .u64 x1, .int .u64 x2, .int .u64 x3, .bool b4, .bool b5, .slice ad m cap, .int .i64 x7, .int .u64 x8, .int .u64 x9, .int .u64 x10, .int .u64 x11, .int .u64 x12] 25) = w0 at HP0 HB0 ⊢
  refine (bytes11_yes x0 x1 x2 x3 b4 b5 x7 x8 x9 x10 x11 x12 ad m cap ack cnt w0 (by omega)).mono ?_
  rintro e w1 ⟨rfl, hb1⟩
  have hP1 := HP0.out.below hb1
  obtain ⟨p0, p1, p2, p3, p4, p5, p6, p7, p8, p9, p10, p11, p12⟩ := hP1.cells
  have HP1 := hide hP1
  have HB1 : Hid (Below w.heap.size w w1) := HB0.out.trans (hb1.mono HB0.out.size)
  clear hP1 hb1 HP0 HB0
  go_wp2_with fail
  refine (ascend_any ad m cap b off E B w1 hm (HS.out.below HB1.out)).mono ?_
  rintro e w1' ⟨ra, rfl, hasc, hb1'⟩
  have hP1 := HP1.out.below hb1'
  have HB1' : Hid (Below w.heap.size w w1') := HB1.out.trans (hb1'.mono HB1.out.size)
  clear HB1 HP1 hb1' p0 p1 p2 p3 p4 p5 p6 p7 p8 p9 p10 p11 p12
  obtain ⟨p0, p1, p2, p3, p4, p5, p6, p7, p8, p9, p10, p11, p12⟩ := hP1.cells
  have HP1 := hide hP1
  have HB1 := hide HB1'.out
  clear hP1 HB1'
  cases ra with
  | false =>
    clear hasc
    go_wp2
    go_ret
    exact ⟨rfl, HB1.out⟩
  | true =>
  have HASC := hide (hasc rfl)
  clear hasc
  go_wp2_with fail
  refine (tozz_all x0 x1 x2 x3 b4 b5 x7 x8 x9 x10 x11 x12 ad m cap b off E B w1' hm (HS.out.below HB1.out)).mono ?_
  rintro e w2 ⟨ad2, g2, cap2, rfl, hS2, _, hb2⟩
  have HS2 := hide hS2
  have hP2 := HP1.out.below hb2
  have HP2 := hide hP2
  have HB2 : Hid (Below w.heap.size w w2) := HB1.out.trans (hb2.mono HB1.out.size)
  clear hS2 hP2 hb2 HP1 HB1 p0 p1 p2 p3 p4 p5 p6 p7 p8 p9 p10 p11 p12
  go_wp2_with fail
  refine (zz_any x0 x1 x2 x3 b4 b5 x7 x8 x9 x10 x11 x12 ad2 m cap2 g2 0 E B ack cnt w2 hm H7.out HS2.out).mono ?_
  rintro e w3 ⟨k, ad3, g3, cap3, rfl, hk, hE, hEk, hS3, hb3⟩
  have HS3 := hide hS3
  have HE := hide hE
  have HEk := hide hEk
  have hP3 := HP2.out.below hb3
  have HP3 := hide hP3
  have HB3 : Hid (Below w.heap.size w w3) := HB2.out.trans (hb3.mono HB2.out.size)
  clear hS3 hE hEk hP3 hb3 HP2 HB2 HS2
  go_wp2_with fail
  refine (fromzz_all (newSent b4 x0 ack) (newAcked cnt x1 ack) x2 x3 true false (wrap64 (x7 - sumTo B k)) x8 x9 0 0 0 ad3 (m - k) cap3 g3 0 _ _ w3 (by omega) HS3.out).mono ?_
  rintro e w4 ⟨ad4, g4, cap4, rfl, hS4, _, hb4⟩
  have HS4 := hide hS4
  have hP4 := HP3.out.below hb4
  have HP4 := hide hP4
  have HB4 : Hid (Below w.heap.size w w4) := HB3.out.trans (hb4.mono HB3.out.size)
  clear hS4 hP4 hb4 HP3 HB3 HS3 t1
  obtain ⟨r, rfl⟩ : ∃ r, m = k + r := ⟨m - k, by omega⟩
  rw [Nat.add_sub_cancel_left] at HS4 ⊢
  obtain ⟨sn, hsn⟩ : ∃ sn, sn = newSent b4 x0 ack := ⟨_, rfl⟩
  obtain ⟨an, han⟩ : ∃ an, an = newAcked cnt x1 ack := ⟨_, rfl⟩
  obtain ⟨yn, hyn⟩ : ∃ yn, yn = wrap64 (x7 - sumTo B k) := ⟨_, rfl⟩
  rw [← hsn, ← han, ← hyn]
  have HYN := hide hyn
  clear hyn hsn han
  have HBW : Hid (Below w.heap.size w (w4.alloc (.cells #[.int .u64 sn, .int .u64 an, .int .u64 x2, .int .u64 x3, .bool true, .bool false, .slice ad4 r cap4, .int .i64 yn, .int .u64 x8, .int .u64 x9, .int .u64 0, .int .u64 0, .int .u64 0] 25))) := HB4.out.alloc HB4.out.size _
  have HPW := hide (HP4.out.alloc (.cells #[.int .u64 sn, .int .u64 an, .int .u64 x2, .int .u64 x3, .bool true, .bool false, .slice ad4 r cap4, .int .i64 yn, .int .u64 x8, .int .u64 x9, .int .u64 0, .int .u64 0, .int .u64 0] 25))
  have HGW := hide (ProgAt.new w4 25 sn an x2 x3 true false (.slice ad4 r cap4) yn x8 x9 0 0 0)
  have HS4W : Hid (SpansAt (w4.alloc (.cells #[.int .u64 sn, .int .u64 an, .int .u64 x2, .int .u64 x3, .bool true, .bool false, .slice ad4 r cap4, .int .i64 yn, .int .u64 x8, .int .u64 x9, .int .u64 0, .int .u64 0, .int .u64 0] 25)) ad4 r g4 0 (fun i => E (k + i)) (fun i => B (k + i))) := HS4.out.below ((Below.refl _ _).alloc (Nat.le_refl _) _)
  have HSW : Hid (SpansAt (w4.alloc (.cells #[.int .u64 sn, .int .u64 an, .int .u64 x2, .int .u64 x3, .bool true, .bool false, .slice ad4 r cap4, .int .i64 yn, .int .u64 x8, .int .u64 x9, .int .u64 0, .int .u64 0, .int .u64 0] 25)) ad (k + r) b off E B) := HS.out.below HBW.out
  have p6 := HP4.out.cell6
  have hlt := HP4.out.lt
  clear HP4 HB4 HS4 HS
  go_wp2
  clear p6
  generalize w4.alloc (.cells #[.int .u64 sn, .int .u64 an, .int .u64 x2, .int .u64 x3, .bool true, .bool false, .slice ad4 r cap4, .int .i64 yn, .int .u64 x8, .int .u64 x9, .int .u64 0, .int .u64 0, .int .u64 0] 25) = w5 at HBW HPW HGW HS4W HSW ⊢
  have p7 := HPW.out.cells.2.2.2.2.2.2.2.1
  have q6 := HGW.out.cell6
  have q7 := HGW.out.cells.2.2.2.2.2.2.2.1
  have hn34 := neq34
  have hgd := Try.guard34
  clear HPW HGW
  go_loopg [9, 10, 11] (k + r) (fun gg s9 s10 s11 wr => ∃ (t c : Nat) (dd : Int), t ≤ k + r ∧ gg = k + r - t ∧ s9 = .int .i64 c ∧ s10 = .int .i64 dd ∧ s11 = .int .i64 t ∧
    ((t ≤ k ∧ c = 0 ∧ dd = wrap64 (sumTo B t)) ∨ (k ≤ t ∧ c = t - k ∧ dd = wrap64 (sumTo B k))) ∧ Below w5.heap.size w5 wr)
  case atStart => exact ⟨0, 0, 0, Nat.zero_le _, rfl, rfl, rfl, rfl, .inl ⟨Nat.zero_le _, rfl, by simp [sumTo, wrap64]⟩, Below.refl _ _⟩
  case round =>
    obtain ⟨t, c, dd, ht, rfl, rfl, rfl, rfl, hcase, hb⟩ := hrel
    have HC := hide hcase
    clear hcase
    have q6' := (hb.cell (World.block_lt_of_cell? _ _ q6)).trans q6
    by_cases htm : t < k + r
    · have hz : (t : Int) < (k : Int) + (r : Int) := by omega
      obtain ⟨rfl⟩ := HSW.out.1 (by omega)
      obtain ⟨h1, h2⟩ := (HSW.out.below hb).2.2 t htm
      by_cases htk : t < k
      · have hEt := HE.out t htk
        clear q6 q7 p7
        go_wp2
        go_roundg (k + r - (t + 1))
        case measure => omega
        case rel =>
          have hc := HC.out
          have e : c = 0 ∧ dd = wrap64 (sumTo B t) := by
            rcases hc with ⟨_, h2, h3⟩ | ⟨h1, _, _⟩
            · exact ⟨h2, h3⟩
            · omega
          obtain ⟨rfl, rfl⟩ := e
          exact ⟨t + 1, 0, _, by omega, rfl, rfl, rfl, by go_num, .inl ⟨by omega, rfl, wrap_step' _ _⟩, hb⟩
      · obtain ⟨u, rfl⟩ : ∃ u, t = k + u := ⟨t - k, by omega⟩
        have e : c = u ∧ dd = wrap64 (sumTo B k) := by
          rcases HC.out with ⟨k1, k2, k3⟩ | ⟨k1, k2, k3⟩
          · exact ⟨by omega, by rw [k3, show k + u = k by omega]⟩
          · exact ⟨by omega, k3⟩
        obtain ⟨rfl, hdd⟩ := e
        have HDD := hide hdd
        clear hdd HC
        have hEu : ack < E (k + c) := asc_lt HASC.out (by omega) (HEk.out (by omega)) c (by omega)
        obtain ⟨h3, h4⟩ := (HS4W.out.below hb).2.2 c (by omega)
        obtain rfl := HS4W.out.1 (by omega)
        simp only [Nat.zero_add] at h3 h4
        have hcr : (c : Int) < (r : Int) := by omega
        have hcr' : decide (r ≤ c) = false := by simp; omega
        clear q6 q7 p7
        go_wp2
        go_quiet (fail)
        go_wp2
        go_roundg (k + r - (k + c + 1))
        case measure => omega
        case rel =>
          exact ⟨k + c + 1, c + 1, dd, by omega, rfl, by go_num, rfl, by go_num, .inr ⟨by omega, by omega, HDD.out⟩, below_drewN hb _⟩
    · have e : c = r ∧ dd = wrap64 (sumTo B k) := by
        rcases HC.out with ⟨k1, k2, k3⟩ | ⟨k1, k2, k3⟩
        · exact ⟨by omega, by rw [k3, show t = k by omega]⟩
        · exact ⟨by omega, k3⟩
      obtain ⟨rfl, hdd⟩ := e
      obtain rfl : t = k + c := by omega
      have HDD := hide hdd
      clear hdd HC
      have p7' := (hb.cell (World.block_lt_of_cell? _ _ p7)).trans p7
      have q7' := (hb.cell (World.block_lt_of_cell? _ _ q7)).trans q7
      have hcc : ((c : Int) == (c : Int)) = true := by simp
      clear p7 q7 q6
      go_wp2
      go_ret
      refine ⟨?_, HBW.out.trans (hb.mono HBW.out.size)⟩
      rw [HYN.out, HDD.out, wrap_end]
      simp

end Go.Proofs.Qxb6604243a
