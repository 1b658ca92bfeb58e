/-
  FnMembersFreshSparesListMembers (6): the plain law and the walk.
-/
import Derived.Test.Qxb6604102aMembers
namespace Go.Proofs.Qxb6604102a
open Go.RowKit

theorem nodup_set {l : List Int} (h : l.Nodup) (j : Nat) (s : Int) (hs : s ∉ l) : (l.set j s).Nodup := by
  rw [List.Nodup, List.pairwise_iff_getElem] at h ⊢
  intro p q hp hq hpq
  have hp' : p < l.length := by simpa using hp
  have hq' : q < l.length := by simpa using hq
  rw [List.getElem_set, List.getElem_set]
  by_cases e1 : j = p
  · rw [if_pos e1, if_neg (by omega)]
    exact fun e => hs (e ▸ List.getElem_mem hq')
  · rw [if_neg e1]
    by_cases e2 : j = q
    · rw [if_pos e2]
      exact fun e => hs (e ▸ List.getElem_mem hp')
    · rw [if_neg e2]
      exact h p q hp' hq' hpq

/-- The first k spares are fresh: beyond n, up to L, no two of them equal. -/
def Fr (F : Nat → Rp) (n L k : Nat) : Prop := Ok (fun i => (F i).sp) L k ∧ ∀ i, i < k → (n : Int) < (F i).sp
theorem Fr.zero (F : Nat → Rp) (n L : Nat) : Fr F n L 0 := ⟨Ok.zero _ _, fun _ h => absurd h (Nat.not_lt_zero _)⟩
theorem Fr.succ {F : Nat → Rp} {n L k x : Nat} (h : Fr F n L k) (hx : (F k).sp = (x : Int)) (h1 : n < x) (h2 : x ≤ L) (h3 : seen (fun i => (F i).sp) k x = false) : Fr F n L (k + 1) :=
  ⟨h.1.succ hx (by omega) (by omega) h3, fun i hi => by
    by_cases e : i = k
    · subst e; omega
    · exact h.2 i (by omega)⟩

theorem Mem.fresh {n L m : Nat} {F : Nat → Rp} (hnL : n ≤ L) (hF : Fr F n L m) : ∀ {k : Nat} {l : List Int}, k ≤ m → Mem n F k l → l.Nodup ∧ ∀ x ∈ l, (1 ≤ x ∧ x ≤ L) ∧ (x ≤ n ∨ ∃ j, j < k ∧ x = (F j).sp)
  | 0, l, _, h => by
    have h : l = _ := h
    subst h
    refine ⟨?_, fun x hx => ?_⟩
    · rw [List.Nodup, List.pairwise_iff_getElem]
      intro p q hp hq hpq
      simp
      omega
    · obtain ⟨i, hi, rfl⟩ := List.mem_map.1 hx
      have := List.mem_range.1 hi
      exact ⟨by omega, Or.inl (by omega)⟩
  | k + 1, l, hk, ⟨l0, h0, hs⟩ => by
    obtain ⟨hd, hr⟩ := h0.fresh hnL hF (by omega)
    have old : ∀ x ∈ l0, (1 ≤ x ∧ x ≤ (L : Int)) ∧ (x ≤ (n : Int) ∨ ∃ j, j < k + 1 ∧ x = (F j).sp) := fun x hx =>
      ⟨(hr x hx).1, (hr x hx).2.imp id fun ⟨j, hj, e⟩ => ⟨j, by omega, e⟩⟩
    rcases hs with ⟨_, rfl⟩ | ⟨j, _, _, rfl⟩
    · exact ⟨hd, old⟩
    · have hlt := hF.2 k (by omega)
      have hok := hF.1 k (by omega)
      have hnot : (F k).sp ∉ l0 := fun hm => by
        rcases (hr _ hm).2 with h | ⟨i, hi, e⟩
        · omega
        · exact hok.2.2 i hi e.symm
      refine ⟨nodup_set hd j _ hnot, fun x hx => ?_⟩
      rcases List.mem_or_eq_of_mem_set hx with h | h
      · exact old x h
      · subst h
        exact ⟨⟨hok.1, hok.2.1⟩, Or.inr ⟨k, by omega, rfl⟩⟩

theorem fresh_ok {n L m : Nat} {F : Nat → Rp} {l zs : List Int} (hnL : n ≤ L) (hF : Fr F n L m) (hl : Mem n F m l) (hz : zs = l.mergeSort fun x y => decide (x ≤ y)) : Ok (fun i => zs.getD i 0) L n ∧ ∀ i, i < n → 1 ≤ zs.getD i 0 ∧ zs.getD i 0 ≤ L := by
  obtain ⟨hd, hr⟩ := hl.fresh hnL hF (Nat.le_refl _)
  have hp : zs.Perm l := by rw [hz]; exact List.mergeSort_perm _ _
  have hlen : zs.length = n := by rw [hp.length_eq]; exact hl.length
  have hzd : zs.Nodup := hp.nodup_iff.2 hd
  have hmem : ∀ i, i < n → zs.getD i 0 ∈ l := fun i hi => hp.mem_iff.1 (by
    have hi' : i < zs.length := by omega
    rw [List.getD, List.getElem?_eq_getElem hi', Option.getD_some]
    exact List.getElem_mem hi')
  refine ⟨fun i hi => ⟨(hr _ (hmem i hi)).1.1, (hr _ (hmem i hi)).1.2, fun j hj => ?_⟩, fun i hi => (hr _ (hmem i hi)).1⟩
  rw [List.Nodup, List.pairwise_iff_getElem] at hzd
  have hi' : i < zs.length := by omega
  have hj' : j < zs.length := by omega
  have := hzd j i hj' hi' hj
  simpa [List.getD, hi', hj'] using this

set_option maxHeartbeats 4000000 in
theorem fresh_main (n L m cap b off : Nat) (ad : Option Addr) (F : Nat → Rp) (w : World) (hm : m ≤ 65536) (hnL : n ≤ L) (hL : L ≤ 65536) (hz : RpAt w ad m b off F) :
    Calls Try.prog 6 #[.int .i64 n, .int .i64 L, .slice ad m cap] w (Good w) := by
  have hmk := run_make_row' (P := Try.prog) 43 4 (.bool false) 1 Try.underlying43 Try.info4 rfl .i64 .i64 (L + 1) (by omega) (by omega)
  have ec : ((L + 1 : Nat) : Int) = (L : Int) + 1 := by omega
  rw [ec] at hmk
  clear ec
  have HZ := hide hz
  have hn : n ≤ 65536 := by omega
  clear hz
  go_enter Try.func6, Try.ntmps6
  go_wp2_with fail
  refine (bytes14_yes _ _ ad m cap w (by omega)).mono ?_
  rintro e w0 ⟨rfl, rfl⟩
  go_wp2_with fail
  refine (torepls_all ad m cap b off F w hm HZ.out).mono ?_
  rintro e w1 ⟨ad1, g1, cap1, rfl, hrp, hg1, hb1⟩
  have HR := hide hrp
  have HB1 := hide hb1
  clear hrp hb1 hg1
  go_wp2
  clear hmk
  have hB0 : Below w.heap.size w (w1.alloc (.cells (madeCells #[.bool false] (L + 1)) 4)) := HB1.out.alloc HB1.out.size _
  have hR0 : (w1.alloc (.cells (madeCells #[.bool false] (L + 1)) 4)).rowIs w1.heap.size 4 (L + 1) (fun x => .bool (seen (fun i => (F i).sp) 0 x)) := by
    have h := World.rowIs_made w1 (.bool false) (L + 1) 4
    simpa [seen_zero] using h
  have hA0 : Below w1.heap.size w1 (w1.alloc (.cells (madeCells #[.bool false] (L + 1)) 4)) := (Below.refl _ _).alloc (Nat.le_refl _) _
  go_loopg [9] m (fun g i wr => ∃ k : Nat, k ≤ m ∧ g = m - k ∧ i = .int .i64 k ∧ wr.rowIs w1.heap.size 4 (L + 1) (fun x => .bool (seen (fun i => (F i).sp) k x)) ∧ Below w.heap.size w wr ∧ Below w1.heap.size w1 wr ∧ Hid (Fr F n L k))
  case atStart => exact ⟨0, Nat.zero_le _, rfl, rfl, hR0, hB0, hA0, Fr.zero _ _ _⟩
  case round =>
    clear hB0 hR0 hA0
    obtain ⟨k, hk, rfl, rfl, hrow, hbel, hbel1, hfr⟩ := hrel
    by_cases hkm : k < m
    · have hkz : (k : Int) < (m : Int) := by omega
      obtain ⟨rfl⟩ := HR.out.1 (by omega)
      have hsp := ((HR.out.below hbel1).2.2.1 k hkm).2.1
      rw [Nat.zero_add] at hsp
      obtain ⟨h0, h1⟩ := (HR.out.2.2.2 k hkm).2
      obtain ⟨x, hx⟩ := Int.eq_ofNat_of_zero_le h0
      rw [hx] at hsp
      have hxb : (x : Int) ≤ 4294967295 := by omega
      have HX := hide hx
      clear hx h0 h1
      by_cases c1 : x ≤ n
      · go_wp2
        go_ret
        exact ⟨rfl, hbel⟩
      by_cases c2 : L < x
      · go_wp2
        go_ret
        exact ⟨rfl, hbel⟩
      have hxl : x < L + 1 := by omega
      have hs := hrow.cell hxl
      have hfz := hrow.frozen x
      cases hsn : seen (fun i => (F i).sp) k x with
      | true =>
        rw [hsn] at hs
        go_wp2
        go_ret
        exact ⟨rfl, hbel⟩
      | false =>
        rw [hsn] at hs
        have HF' : Hid (Fr F n L (k + 1)) := hfr.out.succ HX.out (by omega) (by omega) hsn
        go_wp2
        go_roundg (m - (k + 1))
        case measure => omega
        case rel =>
          refine ⟨k + 1, by omega, rfl, by go_num, (hrow.set x _).congr fun j _ => ?_, hbel.setCell HB1.out.size _, hbel1.setCell (Nat.le_refl _) _, HF'⟩
          rw [seen_succ]
          show _ = Value.bool (seen (fun i => (F i).sp) k j || ((F k).sp == (j : Int)))
          rw [HX.out]
          by_cases e : j = x
          · subst e; simp
          · rw [if_neg e]
            have : ((x : Int) == (j : Int)) = false := by
              have : ¬ ((x : Int) = (j : Int)) := by omega
              simpa using this
            rw [this, Bool.or_false]
    · obtain rfl : k = m := by omega
      have HR2 := hide (HR.out.below hbel1)
      have HBEL := hide hbel
      clear hrow hbel hbel1
      go_wp2_with fail
      refine (members13 n k cap1 g1 0 ad1 F wr hn hm HR2.out).mono ?_
      rintro e w3 ⟨g, l, zs, hg, rfl, hl, hzs, hc, hb3⟩
      obtain ⟨hok, hrng⟩ := fresh_ok hnL hfr.out hl hzs
      have HC := hide hc
      have HB3 := hide hb3
      have HOK := hide hok
      have HRN := hide hrng
      clear hl hzs hc hb3 hok hrng hg
      go_wp2_with fail
      refine (zzlists_any 0 0 (some ⟨g, 0, none⟩) g 0 n n (fun i => zs.getD i 0) n L w3 hL (by omega) (fun _ => rfl) (fun i hi => by rw [Nat.zero_add]; exact HC.out i hi) (fun i hi => ⟨by have := (HRN.out i hi).1; omega, by have := (HRN.out i hi).2; omega⟩)).mono ?_
      rintro e w4 ⟨r, rfl, hr, hb4⟩
      obtain rfl : r = true := hr.2 ⟨rfl, HOK.out⟩
      have HB4 := hide hb4
      clear hr hb4
      go_wp2
      go_ret
      exact ⟨rfl, (HBEL.out.trans (HB3.out.mono HBEL.out.size)).trans (HB4.out.mono (Nat.le_trans HBEL.out.size HB3.out.size))⟩

end Go.Proofs.Qxb6604102a
