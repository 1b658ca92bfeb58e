/-
  THE WALK of 'FnNewEntryGivesBackContent' (5).
-/
import Derived.Test.Qxb6604243aBack
import Derived.Deep.RegionWith
namespace Go.Proofs.Qxb6604243a
open Go.RowKit

/-- What a law leaves. -/
def GoodN (w : World) (e : Ending) (w' : World) : Prop := e = .returned (.bool true) ∧ Below w.heap.size w w'

/-- The five cells of an entry. -/
def EntAt (w : World) (h : Nat) (term kind : Int) (mp cp : Option Addr) : Prop :=
  w.cell? ⟨h, 0, none⟩ = some (.int .u64 term) ∧ w.cell? ⟨h, 1, none⟩ = some (.int .u64 0) ∧ w.cell? ⟨h, 2, none⟩ = some (.int .u8 kind) ∧ w.cell? ⟨h, 3, none⟩ = some (.pointer mp) ∧ w.cell? ⟨h, 4, none⟩ = some (.pointer cp)
theorem EntAt.below {w w' : World} {h : Nat} {term kind : Int} {mp cp : Option Addr} (e : EntAt w h term kind mp cp) (hb : Below w.heap.size w w') : EntAt w' h term kind mp cp :=
  ⟨later hb e.1, later hb e.2.1, later hb e.2.2.1, later hb e.2.2.2.1, later hb e.2.2.2.2⟩
theorem EntAt.new (w : World) (term kind : Int) (mp cp : Option Addr) : EntAt (w.alloc (.cells #[.int .u64 term, .int .u64 0, .int .u8 kind, .pointer mp, .pointer cp] 49)) w.heap.size term kind mp cp := by
  refine ⟨?_, ?_, ?_, ?_, ?_⟩ <;> go_simp

set_option maxRecDepth 100000 in
set_option maxHeartbeats 8000000 in
theorem new_main (term kind seq cl : Int) (ad md : Option Addr) (n cap m mc b off mb mo : Nat) (sid : ByteArray) (Z : Nat → Int) (I D : Nat → Int) (A : Nat → ByteArray) (V : Nat → Bool) (w : World) (hn : n ≤ 1048576) (hs : sid.size ≤ 1048576) (hm : m ≤ 4096)
    (hz : BytesAt w ad n b off Z) (hM : MembersAt w md m mb mo I A V D) :
    Calls Try.prog 5 #[.int .u64 term, .int .u8 kind, .slice ad n cap, .string sid, .int .u64 seq, .slice md m mc, .int .u64 cl] w (GoodN w) := by
  have HZ := hide hz
  have HM := hide hM
  clear hz hM
  go_enter Try.func5, Try.ntmps5
  go_wp2_with fail
  refine (bytes13 term kind seq cl ad md n cap m mc mb mo sid I D A V w HM.out).mono ?_
  rintro e w0 ⟨⟨r, rfl⟩, rfl⟩
  cases r with
  | false =>
    go_wp2
    go_ret
    exact ⟨rfl, Below.refl _ _⟩
  | true =>
  go_wp2_with fail
  refine (entryBytes14 ad md n cap m mc mb mo sid I D A V w HM.out hn hs hm).mono ?_
  rintro e w0 ⟨⟨nb, rfl⟩, rfl⟩
  by_cases hnb : 1048576 < nb
  · go_wp2
    go_ret
    exact ⟨rfl, Below.refl _ _⟩
  go_wp2_with fail
  refine (copy_all ad n cap b off Z w hn HZ.out).mono ?_
  rintro e w1 ⟨dad, g1, dcap, rfl, hz1, hb1⟩
  have HZ1 := hide hz1
  clear hz1
  go_wp2_with fail
  refine (members_all md m mc mb mo I A V D w1 hm (HM.out.below hb1)).mono ?_
  rintro e w2 ⟨mad, g2, mcap, rfl, hm2, hb2⟩
  have HM2 := hide hm2
  have HB2 : Hid (Below w.heap.size w w2) := hb1.trans (hb2.mono hb1.size)
  have HZ2 := hide (HZ1.out.below hb2)
  clear hm2 hb1 hb2 HZ1 hnb
  go_wp2_with fail
  have hs0 : (w2.alloc (.cells #[.string sid, .int .u64 seq] 44)).cell? ⟨w2.heap.size, 0, none⟩ = some (.string sid) := by go_simp
  have hs1 : (w2.alloc (.cells #[.string sid, .int .u64 seq] 44)).cell? ⟨w2.heap.size, 1, none⟩ = some (.int .u64 seq) := by go_simp
  have hb3 : Below w2.heap.size w2 (w2.alloc (.cells #[.string sid, .int .u64 seq] 44)) := (Below.refl _ _).alloc (Nat.le_refl _) _
  have HB3 : Hid (Below w.heap.size w (w2.alloc (.cells #[.string sid, .int .u64 seq] 44))) := HB2.out.trans (hb3.mono HB2.out.size)
  have HM3 := hide (HM2.out.below hb3)
  have HZ3 := hide (HZ2.out.below hb3)
  have HS0 := hide hs0
  have HS1 := hide hs1
  clear hs0 hs1 hb3 HB2 HM2 HZ2
  generalize w2.alloc (.cells #[.string sid, .int .u64 seq] 44) = w3 at HB3 HM3 HZ3 HS0 HS1 ⊢
  refine (newEntry_any term kind dad n dcap sid seq mad m mcap cl w3 hn hm).mono ?_
  rintro e w4 ⟨mp, cp, rfl, hmsg, hclu, hb4⟩
  have HMS := hide hmsg
  have HCL := hide hclu
  have HB4 : Hid (Below w.heap.size w w4) := HB3.out.trans (hb4.mono HB3.out.size)
  have HM4 := hide (HM3.out.below hb4)
  have HZ4 := hide (HZ3.out.below hb4)
  have HS04 := hide (later hb4 HS0.out)
  have HS14 := hide (later hb4 HS1.out)
  clear hmsg hclu hb4 HB3 HM3 HZ3 HS0 HS1
  go_wp2_with fail
  have hb5 : Below w4.heap.size w4 (w4.alloc (.cells #[.int .u64 term, .int .u64 0, .int .u8 kind, .pointer mp, .pointer cp] 49)) := (Below.refl _ _).alloc (Nat.le_refl _) _
  have HE5 := hide (EntAt.new w4 term kind mp cp)
  have HB5 : Hid (Below w.heap.size w (w4.alloc (.cells #[.int .u64 term, .int .u64 0, .int .u8 kind, .pointer mp, .pointer cp] 49))) := HB4.out.trans (hb5.mono HB4.out.size)
  have HMS5 := hide (HMS.out.below hb5)
  have HCL5 := hide (HCL.out.below hb5)
  have HM5 := hide (HM4.out.below hb5)
  have HZ5 := hide (HZ4.out.below hb5)
  have HS05 := hide (later hb5 HS04.out)
  have HS15 := hide (later hb5 HS14.out)
  clear hb5 HB4 HMS HCL HM4 HZ4 HS04 HS14
  generalize (w4.alloc (.cells #[.int .u64 term, .int .u64 0, .int .u8 kind, .pointer mp, .pointer cp] 49)) = w5 at HE5 HB5 HMS5 HCL5 HM5 HZ5 HS05 HS15 ⊢
  refine (data_any term kind mp cp dad n dcap g1 sid seq Z w5 HMS5.out HZ5.out).mono ?_
  rintro e w6 ⟨ad6, g6, cap6, rfl, hz6, hb6⟩
  have HZ6 := hide hz6
  have HB6 : Hid (Below w.heap.size w w6) := HB5.out.trans (hb6.mono HB5.out.size)
  have HE6 := hide (HE5.out.below hb6)
  have HMS6 := hide (HMS5.out.below hb6)
  have HCL6 := hide (HCL5.out.below hb6)
  have HM6 := hide (HM5.out.below hb6)
  have HS06 := hide (later hb6 HS05.out)
  have HS16 := hide (later hb6 HS15.out)
  clear hz6 hb6 HB5 HE5 HMS5 HCL5 HM5 HZ5 HS05 HS15
  go_wp2_with fail
  refine (same_any ad6 ad n cap6 cap g6 0 b off Z w6 hn HZ6.out (HZ.out.below HB6.out)).mono ?_
  rintro e w7 ⟨rfl, hb7⟩
  have HB7 : Hid (Below w.heap.size w w7) := HB6.out.trans (hb7.mono HB6.out.size)
  have HE7 := hide (HE6.out.below hb7)
  have HMS7 := hide (HMS6.out.below hb7)
  have HCL7 := hide (HCL6.out.below hb7)
  have HM7 := hide (HM6.out.below hb7)
  have s0 := later hb7 HS06.out
  have s1 := later hb7 HS16.out
  clear hb7 HB6 HE6 HMS6 HCL6 HM6 HZ6 HS06 HS16
  obtain ⟨e0, e1, e2, e3, e4⟩ := HE7.out
  have hn44 := neq44
  have hgd := Try.guard44
  have hss := sesNe_self sid seq
  go_wp2_with fail
  go_region_with (go_at_call 20; refine (session_any term kind mp cp dad n dcap sid seq _ ?_).mono ?_; (exact HMS7.out.below (Below.drew (Below.refl _ _))); rintro e w8 ⟨rfl, hb8⟩; have hs0 := later hb8 (show w7.drew.cell? _ = _ from s0); have hs1 := later hb8 (show w7.drew.cell? _ = _ from s1))
  all_goals
    have hb8' : Below w7.heap.size w7 w8 := (Below.drew (Below.refl _ _)).trans hb8
    have HB8 : Hid (Below w.heap.size w w8) := HB7.out.trans (hb8'.mono HB7.out.size)
    have HE8 := hide (HE7.out.below hb8')
    have HCL8 := hide (HCL7.out.below hb8')
    have HM8 := hide (HM7.out.below hb8')
    clear hb8 hb8' hs0 hs1 s0 s1 e0 e1 e2 e3 e4 hn44 hgd hss HB7 HE7 HMS7 HCL7 HM7
    obtain ⟨e0, e1, e2, e3, e4⟩ := HE8.out
    go_wp2_with fail
    refine (cluster_any term kind mp cp mad m mcap cl w8 HCL8.out).mono ?_
    rintro e w9 ⟨rfl, hb9⟩
    have HB9 : Hid (Below w.heap.size w w9) := HB8.out.trans (hb9.mono HB8.out.size)
    have HE9 := hide (HE8.out.below hb9)
    have HCL9 := hide (HCL8.out.below hb9)
    have HM9 := hide (HM8.out.below hb9)
    clear hb9 e0 e1 e2 e3 e4 HB8 HE8 HCL8 HM8
    obtain ⟨e0, e1, e2, e3, e4⟩ := HE9.out
    go_wp2_with fail
    refine (mems_any term kind mp cp mad m mcap g2 cl I A V D w9 HCL9.out HM9.out).mono ?_
    rintro e wa ⟨ada, ga, capa, rfl, hma, hba⟩
    have HMA := hide hma
    have HBA : Hid (Below w.heap.size w wa) := HB9.out.trans (hba.mono HB9.out.size)
    clear hma hba e0 e1 e2 e3 e4 HB9 HE9 HCL9 HM9
    go_wp2
    go_loopg [20] m (fun g i wr => ∃ k : Nat, k ≤ m ∧ g = m - k ∧ i = .int .i64 k ∧ Below wa.heap.size wa wr)
    case atStart => exact ⟨0, Nat.zero_le _, rfl, rfl, Below.refl _ _⟩
    case round =>
      obtain ⟨k, hk, rfl, rfl, hb⟩ := hrel
      by_cases hkm : k < m
      · have hkz : (k : Int) < (m : Int) := by omega
        obtain rfl := HMA.out.1 (by omega)
        obtain rfl := HM.out.1 (by omega)
        obtain ⟨h0, h1, h2, h3⟩ := (HMA.out.below hb).2.2 k hkm
        have hmw := HM.out.below (HBA.out.trans (hb.mono HBA.out.size))
        obtain ⟨i0, i1, i2, i3⟩ := hmw.2.2 k hkm
        have hbl := World.block_lt_of_cell? _ _ i0
        simp only [Nat.zero_add] at h0 h1 h2 h3
        clear hmw
        go_wp2
        go_quiet (fail)
        go_wp2
        go_roundg (m - (k + 1))
        case measure => omega
        case rel => exact ⟨k + 1, by omega, rfl, by go_num, below_drewN (hb.alloc hb.size _) _⟩
      · go_wp2
        go_ret
        exact ⟨rfl, HBA.out.trans (hb.mono HBA.out.size)⟩

end Go.Proofs.Qxb6604243a
