/-
  THE WALK of 'FnMergeMarksWhole' (6).
-/
import Derived.Test.Qxb6604243aMerge
namespace Go.Proofs.Qxb6604243a
open Go.RowKit

/-- What a law leaves. -/
def GoodM (w : World) (e : Ending) (w' : World) : Prop := e = .returned (.bool true) ∧ Below w.heap.size w w'

/-- Two marks differ. -/
def mkNe (a b : Mk) : Bool := !(a.id.toList == b.id.toList && (a.seq == b.seq && (a.index == b.index && (a.term == b.term && a.time == b.time))))
theorem mkNe_self (a : Mk) : mkNe a a = false := by simp [mkNe]
theorem Try.guard75 : Try.prog.eqGuardType Try.prog.depth 75 = false := by kernel_rfl
theorem neq75 (a b : Mk) (w : World) : (binOp .neq 75 (.agg #[.string a.id, .int .u64 a.seq, .int .u64 a.index, .int .u64 a.term, .int .u64 a.time]) (.agg #[.string b.id, .int .u64 b.seq, .int .u64 b.index, .int .u64 b.term, .int .u64 b.time])).run Try.prog w = .ok (.bool (mkNe a b)) w := by
  have u22 := Try.underlying22
  have u9 := Try.underlying9
  have hS : Try.prog.underlying 75 = some (.struct (Try.prog.fieldsOf 75)) := by kernel_rfl
  have hp : Try.prog.stoodInHeld 75 = false := by kernel_rfl
  rw [run_neq_struct, show (10000 : Nat) = 9999 + 1 from rfl, run_equalIn_agg w 9999 75 _ _ hS hp]
  simp only [Program.fieldsOf, Try.underlying75]
  go_simp
  unfold mkNe
  by_cases h1 : a.id.toList = b.id.toList <;> by_cases h2 : a.seq = b.seq <;> by_cases h3 : a.index = b.index <;> by_cases h4 : a.term = b.term <;> by_cases h5 : a.time = b.time <;> simp [h1, h2, h3, h4, h5]

/-- How many of the first i of F have their ID among the first n of F'. -/
def cnt (F F' : Nat → Mk) (n : Nat) : Nat → Nat
  | 0 => 0
  | i + 1 => cnt F F' n i + if inL (listOf n F') (F i) = true then 1 else 0
theorem cnt_le (F F' : Nat → Mk) (n : Nat) : ∀ i, cnt F F' n i ≤ i
  | 0 => Nat.le_refl _
  | i + 1 => by unfold cnt; have := cnt_le F F' n i; split <;> omega
theorem cnt_common (F F' : Nat → Mk) (n : Nat) : ∀ i, cnt F F' n i = common (listOf i F) (listOf n F')
  | 0 => rfl
  | i + 1 => by
    unfold cnt common
    rw [listOf_snoc, List.filter_append, List.length_append, cnt_common F F' n i]
    unfold common
    split
    · rename_i h; simp [h]
    · rename_i h; simp [h]

theorem inL_of_found {n i : Nat} {F' : Nat → Mk} {x : Mk} (hi : i < n) (h : (F' i).id = x.id) : inL (listOf n F') x = true := by
  simp only [inL, List.any_eq_true, beq_iff_eq]
  exact ⟨F' i, mem_listOf.2 ⟨i, hi, rfl⟩, by rw [h, cmpM_refl]⟩
theorem inL_of_none {n : Nat} {F' : Nat → Mk} {x : Mk} (h : ∀ i, i < n → (F' i).id ≠ x.id) : inL (listOf n F') x = false :=
  inL_false fun y hy => by
    obtain ⟨i, hi, rfl⟩ := mem_listOf.1 hy
    intro h0
    exact h i hi (cmpM_eq h0).symm
/-- Where a mark is found by its ID it is that mark. -/
theorem found_same {r q : Nat} {G : Nat → Mk} {x : Mk} (ha : Asc G r) (hx : x ∈ listOf r G) (hq : q < r) (h : (G q).id = x.id) : G q = x := by
  obtain ⟨i, hi, rfl⟩ := mem_listOf.1 hx
  by_cases h1 : i < q
  · have := ha.lt' h1 hq; rw [h, cmpM_refl] at this; omega
  · by_cases h2 : q < i
    · have := ha.lt' h2 hi; rw [h, cmpM_refl] at this; omega
    · rw [show q = i by omega]
theorem found_not {r : Nat} {G : Nat → Mk} {x : Mk} (hx : x ∈ listOf r G) (h : ∀ i, i < r → (G i).id ≠ x.id) : False := by
  obtain ⟨i, hi, rfl⟩ := mem_listOf.1 hx
  exact h i hi rfl

set_option maxRecDepth 100000 in
set_option maxHeartbeats 8000000 in
theorem merge_main (ad nd : Option Addr) (m mc b off n nc b' off' : Nat) (F F' : Nat → Mk) (w : World) (hm : MksAt w ad m b off F) (hn : MksAt w nd n b' off' F') (c1 : m ≤ 4096) (c2 : n ≤ 4096) :
    Calls Try.prog 6 #[.slice ad m mc, .slice nd n nc] w (GoodM w) := by
  have HM := hide hm
  have HN := hide hn
  clear hm hn
  go_enter Try.func6, Try.ntmps6
  go_wp2_with fail
  refine (bytes23 ad nd m mc b off n nc b' off' F F' w HM.out HN.out).mono ?_
  rintro e w0 ⟨⟨r, rfl⟩, rfl⟩
  cases r with
  | false =>
    go_wp2
    go_ret
    exact ⟨rfl, Below.refl _ _⟩
  | true =>
  go_wp2_with fail
  refine (smBytes24 ad m mc b off F w HM.out c1).mono ?_
  rintro e w0 ⟨⟨s1, hs1, rfl⟩, rfl⟩
  go_wp2_with fail
  refine (smBytes24 nd n nc b' off' F' w HN.out c2).mono ?_
  rintro e w0 ⟨⟨s2, hs2, rfl⟩, rfl⟩
  by_cases hss : (1048576 : Int) < (s1 : Int) + (s2 : Int)
  · go_wp2
    go_ret
    exact ⟨rfl, Below.refl _ _⟩
  go_wp2_with fail
  refine (asc25 ad m mc b off F w HM.out (by omega)).mono ?_
  rintro e w1 ⟨r, rfl, hr, q1, hw1⟩
  have hb1 : Below w.heap.size w w1 := by rw [hw1]; exact below_drewN (Below.refl _ _) _
  cases r with
  | false =>
    clear hw1
    go_wp2
    go_ret
    exact ⟨rfl, hb1⟩
  | true =>
  have HA1 := hide (hr.1 rfl)
  clear hr hw1
  go_wp2_with fail
  refine (asc25 nd n nc b' off' F' w1 (HN.out.below hb1) (by omega)).mono ?_
  rintro e w2 ⟨r, rfl, hr, q2, hw2⟩
  have hb2 : Below w.heap.size w w2 := by rw [hw2]; exact below_drewN hb1 _
  clear hw2
  cases r with
  | false =>
    go_wp2
    go_ret
    exact ⟨rfl, hb2⟩
  | true =>
  have HA2 := hide (hr.1 rfl)
  clear hr
  go_wp2_with fail
  refine (tomarks_all ad m mc b off F w2 (by omega) (HM.out.below hb2)).mono ?_
  rintro e w3 ⟨ad3, g3, cap3, rfl, h3, hc3, hg3, hb3⟩
  have H3 := hide h3
  have HB3 : Hid (Below w.heap.size w w3) := hb2.trans (hb3.mono hb2.size)
  clear h3 hb3 hb1 hb2
  go_wp2_with fail
  refine (tomarks_all nd n nc b' off' F' w3 (by omega) (HN.out.below HB3.out)).mono ?_
  rintro e w4 ⟨ad4, g4, cap4, rfl, h4, hc4, hg4, hb4⟩
  have H4 := hide h4
  have H34 := hide (H3.out.below hb4)
  have HB4 : Hid (Below w.heap.size w w4) := HB3.out.trans (hb4.mono HB3.out.size)
  clear h4 hb4 H3 HB3
  go_wp2_with fail
  refine (zzmerge27 ad3 ad4 m n cap3 cap4 g3 0 g4 0 F F' w4 H34.out H4.out c1 c2 hc3 hc4).mono ?_
  rintro e w5 ⟨r, G, ad5, g5, o5, cap5, rfl, h5, hr5, hl5, hb5⟩
  have H5 := hide h5
  have HL5 := hide hl5
  have HB5 : Hid (Below w.heap.size w w5) := HB4.out.trans (hb5.mono HB4.out.size)
  clear h5 hl5 hb5 H34 H4 HB4
  have hwh := whole_merge (m + n) (listOf m F) (listOf n F') (by rw [listOf_length, listOf_length]; exact Nat.le_refl _) (ascL_of HA1.out) (ascL_of HA2.out)
  rw [← HL5.out] at hwh
  have HWH := hide hwh
  clear hwh HL5
  go_wp2_with fail
  refine (frommarks_all ad5 r cap5 g5 o5 G w5 (by omega) H5.out).mono ?_
  rintro e w6 ⟨ad6, g6, cap6, rfl, h6, hc6, hg6, hb6⟩
  have H6 := hide h6
  have HB6 : Hid (Below w.heap.size w w6) := HB5.out.trans (hb6.mono HB5.out.size)
  clear h6 hb6 H5 HB5 hg6 hc6 hg3 hc3 hg4 hc4
  go_wp2_with fail
  refine (asc25 ad6 r cap6 g6 0 G w6 H6.out (by omega)).mono ?_
  rintro e w7 ⟨rr, rfl, hr7, q7, hw7⟩
  have HAG := hide (asc_of HWH.out.asc)
  obtain rfl : rr = true := hr7.2 HAG.out
  have hb7 : Below w6.heap.size w6 w7 := by rw [hw7]; exact below_drewN (Below.refl _ _) _
  have H7 := hide (H6.out.below hb7)
  have HB7 : Hid (Below w.heap.size w w7) := HB6.out.trans (hb7.mono HB6.out.size)
  clear hr7 hw7 hb7 H6 HB6
  have hgd := Try.guard75
  go_wp2
  go_loopg [6] n (fun gg s6 wr => ∃ i : Nat, i ≤ n ∧ gg = n - i ∧ s6 = .int .i64 i ∧ Below w7.heap.size w7 wr)
  case atStart => exact ⟨0, Nat.zero_le _, rfl, rfl, Below.refl _ _⟩
  case round =>
    obtain ⟨i, hi, rfl, rfl, hb⟩ := hrel
    have HBR : Hid (Below w.heap.size w wr) := HB7.out.trans (hb.mono HB7.out.size)
    have HGR := hide (H7.out.below hb)
    by_cases hin : i < n
    · have hiz : (i : Int) < (n : Int) := by omega
      obtain ⟨rfl⟩ := HN.out.1 (by omega)
      have HNR := hide (HN.out.below HBR.out)
      obtain ⟨v0, v1, v2, v3, v4⟩ := HNR.out.2.2.1 i hin
      go_wp2_with fail
      refine (find29 ad6 r cap6 g6 0 G (F' i).id wr HGR.out (by omega) (HN.out.2.2.2 i hin) HAG.out).mono ?_
      rintro e w8 ⟨hf, q8, hw8⟩
      have hmem := HWH.out.newer (F' i) (mem_listOf.2 ⟨i, hin, rfl⟩)
      rcases hf with ⟨q, hq, hqid, rfl⟩ | ⟨hno, rfl⟩
      rotate_left
      · exact (found_not hmem hno).elim
      have hsame := found_same HAG.out hmem hq hqid
      have hb8 : Below wr.heap.size wr w8 := by rw [hw8]; exact below_drewN (Below.refl _ _) _
      have hb8' : Below w7.heap.size w7 w8 := by rw [hw8]; exact below_drewN hb _
      obtain ⟨x0, x1, x2, x3, x4⟩ := (HGR.out.below hb8).2.2.1 q hq
      rw [hsame, Nat.zero_add] at x0 x1 x2 x3 x4
      obtain ⟨y0, y1, y2, y3, y4⟩ := (HNR.out.below hb8).2.2.1 i hin
      obtain ⟨rfl⟩ := HGR.out.1 (by omega)
      have hqz : (q : Int) < (r : Int) := by omega
      have hq0 : decide ((q : Int) < 0) = false := by simp
      have hn75 := neq75 (F' i) (F' i)
      rw [mkNe_self] at hn75
      clear v0 v1 v2 v3 v4 hmem hqid hsame hw8 hb8
      go_wp2
      go_quiet (fail)
      go_wp2
      go_roundg (n - (i + 1))
      case measure => omega
      case rel => exact ⟨i + 1, by omega, rfl, by go_num, below_drewN hb8' _⟩
    · go_wp2
      clear hi hin HGR
      obtain ⟨wl, rfl⟩ : ∃ wl : World, wl = wr := ⟨_, rfl⟩
      have HGL := hide (H7.out.below hb)
      clear H7 hb HB7
      go_loopg [8, 9] m (fun gg s8 s9 wr => ∃ i : Nat, i ≤ m ∧ gg = m - i ∧ s8 = .int .i64 (cnt F F' n i) ∧ s9 = .int .i64 i ∧ Below wl.heap.size wl wr)
      case atStart => exact ⟨0, Nat.zero_le _, rfl, rfl, rfl, Below.refl _ _⟩
      case round =>
        obtain ⟨i, hi, rfl, rfl, rfl, hb⟩ := hrel
        have HBQ : Hid (Below w.heap.size w wr) := HBR.out.trans (hb.mono HBR.out.size)
        have HGR := hide (HGL.out.below hb)
        obtain ⟨cc, hcc⟩ : ∃ cc, cc = cnt F F' n i := ⟨_, rfl⟩
        have hccle : cc ≤ i := by rw [hcc]; exact cnt_le _ _ _ _
        rw [← hcc]
        have HCC := hide hcc
        clear hcc
        by_cases him : i < m
        · have hiz : (i : Int) < (m : Int) := by omega
          obtain ⟨rfl⟩ := HM.out.1 (by omega)
          have HMR := hide (HM.out.below HBQ.out)
          obtain ⟨v0, v1, v2, v3, v4⟩ := HMR.out.2.2.1 i him
          go_wp2_with fail
          refine (find29 nd n nc b' off' F' (F i).id wr (HN.out.below HBQ.out) (by omega) (HM.out.2.2.2 i him) HA2.out).mono ?_
          rintro e w8 ⟨hf, q8, hw8⟩
          have hb8 : Below wr.heap.size wr w8 := by rw [hw8]; exact below_drewN (Below.refl _ _) _
          have hb8' : Below wl.heap.size wl w8 := by rw [hw8]; exact below_drewN hb _
          rcases hf with ⟨q, hq, hqid, rfl⟩ | ⟨hno, rfl⟩
          · have hin := inL_of_found (x := F i) hq hqid
            have HK : Hid (cc + 1 = cnt F F' n (i + 1)) := by rw [HCC.out]; show cnt F F' n i + 1 = cnt F F' n i + _; rw [if_pos hin]
            have hq0 : decide ((0 : Int) ≤ (q : Int)) = true := by simp
            clear hin hqid v0 v1 v2 v3 v4 hw8 hb8
            go_wp2
            go_roundg (m - (i + 1))
            case measure => omega
            case rel => exact ⟨i + 1, by omega, rfl, by rw [← HK.out]; go_num, by go_num, hb8'⟩
          · have hin := inL_of_none (x := F i) hno
            have HK : Hid (cc = cnt F F' n (i + 1)) := by rw [HCC.out]; show cnt F F' n i = cnt F F' n i + _; rw [if_neg (by rw [hin]; simp)]; rfl
            have hmem := HWH.out.older (F i) (mem_listOf.2 ⟨i, him, rfl⟩) hin
            have HGR8 := hide (HGR.out.below hb8)
            have HMR8 := hide (HMR.out.below hb8)
            obtain ⟨v0', v1', v2', v3', v4'⟩ := HMR8.out.2.2.1 i him
            have HME := hide hmem
            clear hin hno hmem v0 v1 v2 v3 v4 hw8 hb8
            go_wp2_with fail
            refine (find29 ad6 r cap6 g6 0 G (F i).id w8 HGR8.out (by omega) (HM.out.2.2.2 i him) HAG.out).mono ?_
            rintro e w9 ⟨hf, q9, hw9⟩
            rcases hf with ⟨q, hq, hqid, rfl⟩ | ⟨hno, rfl⟩
            rotate_left
            · exact (found_not HME.out hno).elim
            have hsame := found_same HAG.out HME.out hq hqid
            have hb9 : Below w8.heap.size w8 w9 := by rw [hw9]; exact below_drewN (Below.refl _ _) _
            have hb9' : Below wl.heap.size wl w9 := by rw [hw9]; exact below_drewN hb8' _
            obtain ⟨x0, x1, x2, x3, x4⟩ := (HGR8.out.below hb9).2.2.1 q hq
            rw [hsame, Nat.zero_add] at x0 x1 x2 x3 x4
            obtain ⟨y0, y1, y2, y3, y4⟩ := (HMR8.out.below hb9).2.2.1 i him
            obtain ⟨rfl⟩ := HGR.out.1 (by omega)
            have hqz : (q : Int) < (r : Int) := by omega
            have hq0 : decide ((q : Int) < 0) = false := by simp
            have hn75 := neq75 (F i) (F i)
            rw [mkNe_self] at hn75
            clear v0' v1' v2' v3' v4' hqid hsame hw9 hb9
            go_wp2
            go_quiet (fail)
            go_wp2
            go_roundg (m - (i + 1))
            case measure => omega
            case rel => exact ⟨i + 1, by omega, rfl, by rw [← HK.out], by go_num, below_drewN hb9' _⟩
        · obtain rfl : i = m := by omega
          have hlen := HWH.out.length
          rw [listOf_length, listOf_length, listOf_length, ← cnt_common, ← HCC.out] at hlen
          have hfin : ((r : Int) == (i : Int) + (n : Int) - (cc : Int)) = true := by rw [beq_iff_eq]; omega
          clear hlen
          go_wp2
          go_ret
          exact ⟨rfl, HBQ.out⟩

end Go.Proofs.Qxb6604243a
