/-
  REPLACEMENTS: three cells an element. zzBytes (11, 14), zzToRepls (12), slices.Index (16).
-/
import Derived.Test.Qxb6604102aExact
import Derived.Deep.RegionHeld3
import Derived.Deep.Draws
import Derived.Deep.QuietTactic
import Derived.BigQuiet
import Derived.BigRegion
namespace Go.Proofs.Qxb6604102a
open Go.RowKit

/-- A replacement. -/
structure Rp where
  rd : Int
  sp : Int
  sq : Int

/-- The replacements that a slice leads to. -/
def RpAt (w : World) (ad : Option Addr) (m b off : Nat) (F : Nat → Rp) : Prop :=
  (0 < m → ad = some ⟨b, off, none⟩) ∧ (ad = none → m = 0) ∧ (∀ i, i < m → w.cell? ⟨b, off + i * 3, none⟩ = some (.int .u32 (F i).rd) ∧ w.cell? ⟨b, off + i * 3 + 1, none⟩ = some (.int .u32 (F i).sp) ∧
    w.cell? ⟨b, off + i * 3 + 2, none⟩ = some (.int .u64 (F i).sq)) ∧
  ∀ i, i < m → (0 ≤ (F i).rd ∧ (F i).rd ≤ 4294967295) ∧ 0 ≤ (F i).sp ∧ (F i).sp ≤ 4294967295
theorem lat {w w' : World} {a : Addr} {v : Value} (hb : Below w.heap.size w w') (h : w.cell? a = some v) : w'.cell? a = some v := (hb.cell (World.block_lt_of_cell? _ _ h)).trans h
theorem RpAt.below {w w' : World} {ad : Option Addr} {m b off : Nat} {F : Nat → Rp} (h : RpAt w ad m b off F) (hb : Below w.heap.size w w') : RpAt w' ad m b off F :=
  ⟨h.1, h.2.1, fun i hi => have k := h.2.2.1 i hi; ⟨lat hb k.1, lat hb k.2.1, lat hb k.2.2⟩, h.2.2.2⟩
theorem RpAt.nil (w : World) (b off : Nat) (F : Nat → Rp) : RpAt w none 0 b off F :=
  ⟨fun h => absurd h (Nat.lt_irrefl _), fun _ => rfl, fun _ hi => absurd hi (Nat.not_lt_zero _), fun _ hi => absurd hi (Nat.not_lt_zero _)⟩

theorem bytes11_yes (a0 : Int) (ad : Option Addr) (m cap : Nat) (w : World) (h : m ≤ 1048576) : Calls Try.prog 11 #[.int .i64 a0, .slice ad m cap] w fun e w' => e = .returned (.bool true) ∧ w = w' := by
  go_enter Try.func11, Try.ntmps11
  go_wp2
  go_ret
  exact ⟨rfl, rfl⟩
theorem bytes11_no (a0 : Int) (ad : Option Addr) (m cap : Nat) (w : World) (h : ¬ m ≤ 1048576) : Calls Try.prog 11 #[.int .i64 a0, .slice ad m cap] w fun e w' => e = .returned (.bool false) ∧ w = w' := by
  go_enter Try.func11, Try.ntmps11
  go_wp2
  go_ret
  exact ⟨rfl, rfl⟩
theorem bytes14_yes (a0 a1 : Int) (ad : Option Addr) (m cap : Nat) (w : World) (h : m ≤ 1048576) : Calls Try.prog 14 #[.int .i64 a0, .int .i64 a1, .slice ad m cap] w fun e w' => e = .returned (.bool true) ∧ w = w' := by
  go_enter Try.func14, Try.ntmps14
  go_wp2
  go_ret
  exact ⟨rfl, rfl⟩
theorem bytes14_no (a0 a1 : Int) (ad : Option Addr) (m cap : Nat) (w : World) (h : ¬ m ≤ 1048576) : Calls Try.prog 14 #[.int .i64 a0, .int .i64 a1, .slice ad m cap] w fun e w' => e = .returned (.bool false) ∧ w = w' := by
  go_enter Try.func14, Try.ntmps14
  go_wp2
  go_ret
  exact ⟨rfl, rfl⟩

/-- 'make([]T, n)', T of several cells: the kit's 'run_make' with what is known of T taken as one closed fact. -/
theorem run_make_cells {P : Program} (t e : TypeId) (z : Value) (zs : Array Value) (size bytes : Nat) (ht : P.underlying t = some (.slice e)) (hinfo : (P.info? e).map (fun i => (i.zero, i.size, i.bytes)) = some (some z, size, bytes)) (hz1 : z.cells = zs)
    (kl kc : IntKind) (n : Nat) (hbytes : bytes * n ≤ 281474976710656) (h63 : n ≤ 9223372036854775807) (w : World) :
    (Instr.makeSlice t (.int kl (n : Int)) (.int kc (n : Int))).run P w = .ok (.slice (some ⟨w.heap.size, 0, none⟩) n n) (w.alloc (.cells (madeCells zs (n * size)) e)) := by
  obtain ⟨i, hi, hzz⟩ := Option.map_eq_some_iff.1 hinfo
  simp only [Prod.mk.injEq] at hzz
  obtain ⟨hz, hs, hb⟩ := hzz
  have hb' : (i.bytes : Int) * (n : Int) ≤ 281474976710656 := by
    have h : ((i.bytes * n : Nat) : Int) ≤ 281474976710656 := by rw [hb]; omega
    rwa [Int.natCast_mul] at h
  have hr := run_make (P := P) w t e i z ht hi hz kl kc n n (by omega) (Int.le_refl _) hb' (by omega)
  simp only [Int.toNat_natCast, hs, hz1] at hr
  exact hr

theorem Try.info41 : (Try.prog.info? 41).map (fun i => (i.zero, i.size, i.bytes)) = some (some (.agg #[.int .u32 0, .int .u32 0, .int .u64 0]), 3, 16) := by kernel_rfl

/-- A row of replacements, cell by cell: the first k are told, the others zero. -/
def rps (F : Nat → Rp) (k : Nat) : Nat → Value := fun j =>
  if j % 3 = 0 then .int .u32 (if j / 3 < k then (F (j / 3)).rd else 0) else if j % 3 = 1 then .int .u32 (if j / 3 < k then (F (j / 3)).sp else 0) else .int .u64 (if j / 3 < k then (F (j / 3)).sq else 0)
section
variable (F : Nat → Rp)
theorem rps_0 (k i : Nat) : rps F k (i * 3) = .int .u32 (if i < k then (F i).rd else 0) := by
  simp [rps]
theorem rps_1 (k i : Nat) : rps F k (i * 3 + 1) = .int .u32 (if i < k then (F i).sp else 0) := by
  have h1 : (i * 3 + 1) % 3 = 1 := by omega
  have h2 : (i * 3 + 1) / 3 = i := by omega
  simp [rps, h1, h2]
theorem rps_2 (k i : Nat) : rps F k (i * 3 + 2) = .int .u64 (if i < k then (F i).sq else 0) := by
  have h1 : (i * 3 + 2) % 3 = 2 := by omega
  have h2 : (i * 3 + 2) / 3 = i := by omega
  simp [rps, h1, h2]
theorem third (j : Nat) : ∃ i, j = i * 3 ∨ j = i * 3 + 1 ∨ j = i * 3 + 2 := ⟨j / 3, by omega⟩
theorem rps_made (w : World) (n : Nat) (t : TypeId) : (w.alloc (.cells (madeCells #[.int .u32 0, .int .u32 0, .int .u64 0] (n * 3)) t)).rowIs w.heap.size t (n * 3) (rps F 0) := by
  refine ⟨_, Deep.blk_alloc_new _ _, size_madeCells _ _, fun i hi => ?_⟩
  obtain ⟨q, rfl | rfl | rfl⟩ := third i
  · rw [rps_0]; simp [madeCells, hi]
  · rw [rps_1]
    have h1 : (q * 3 + 1) % 3 = 1 := by omega
    simp [madeCells, hi, h1]
  · rw [rps_2]
    have h1 : (q * 3 + 2) % 3 = 2 := by omega
    simp [madeCells, hi, h1]
variable {F}
theorem rps_set {w : World} {b : Nat} {t : TypeId} {n k : Nat} (h : w.rowIs b t n (rps F k)) :
    (((w.setCell ⟨b, k * 3, none⟩ (.int .u32 (F k).rd)).setCell ⟨b, k * 3 + 1, none⟩ (.int .u32 (F k).sp)).setCell ⟨b, k * 3 + 2, none⟩ (.int .u64 (F k).sq)).rowIs b t n (rps F (k + 1)) := by
  refine (((h.set _ _).set _ _).set _ _).congr fun j _ => ?_
  obtain ⟨q, rfl | rfl | rfl⟩ := third j
  · rw [rps_0, rps_0]
    by_cases e : q = k
    · subst e
      rw [if_neg (by omega), if_neg (by omega), if_pos rfl, if_pos (by omega)]
    · rw [if_neg (by omega), if_neg (by omega), if_neg (by omega)]
      have : q < k ↔ q < k + 1 := by omega
      simp [this]
  · rw [rps_1, rps_1]
    by_cases e : q = k
    · subst e
      rw [if_neg (by omega), if_pos rfl, if_pos (by omega)]
    · rw [if_neg (by omega), if_neg (by omega), if_neg (by omega)]
      have : q < k ↔ q < k + 1 := by omega
      simp [this]
  · rw [rps_2, rps_2]
    by_cases e : q = k
    · subst e
      rw [if_pos rfl, if_pos (by omega)]
    · rw [if_neg (by omega), if_neg (by omega), if_neg (by omega)]
      have : q < k ↔ q < k + 1 := by omega
      simp [this]
theorem RpAt.of_row {w : World} {b : Nat} {t : TypeId} {n : Nat} (h : w.rowIs b t (n * 3) (rps F n)) (hz : ∀ i, i < n → (0 ≤ (F i).rd ∧ (F i).rd ≤ 4294967295) ∧ 0 ≤ (F i).sp ∧ (F i).sp ≤ 4294967295) : RpAt w (some ⟨b, 0, none⟩) n b 0 F :=
  ⟨fun _ => rfl, (fun h => by cases h), fun i hi => ⟨by rw [Nat.zero_add, h.cell (by omega), rps_0, if_pos hi], by rw [Nat.zero_add, h.cell (by omega), rps_1, if_pos hi],
    by rw [Nat.zero_add, h.cell (by omega), rps_2, if_pos hi]⟩, hz⟩
end

/-- What the converter leaves: the same replacements in memory of their own. -/
def RpPost (m : Nat) (F : Nat → Rp) (w : World) (e : Ending) (w' : World) : Prop :=
  ∃ ad g cap, e = .returned (.slice ad m cap) ∧ RpAt w' ad m g 0 F ∧ w.heap.size ≤ g ∧ Below w.heap.size w w'

theorem torepls_nil (cap : Nat) (F : Nat → Rp) (w : World) : Calls Try.prog 12 #[.slice none 0 cap] w (RpPost 0 F w) := by
  have qs : ∀ (w : World) a n c, (binOp .eql 35 (.slice a n c) (.slice none 0 0)).run Try.prog w = .ok (.bool a.isNone) w := fun w a n c => Lib.run_eql_slice_nil w 35 45 a n c 0 0 Try.underlying35
  go_enter Try.func12, Try.ntmps12
  go_wp2
  go_ret
  exact ⟨none, w.heap.size, 0, rfl, RpAt.nil _ _ _ _, Nat.le_refl _, Below.refl _ _⟩

set_option maxHeartbeats 4000000 in
theorem torepls_any (a : Addr) (m cap b off : Nat) (F : Nat → Rp) (w : World) (hm : m ≤ 65536) (hz : RpAt w (some a) m b off F) : Calls Try.prog 12 #[.slice (some a) m cap] w (RpPost m F w) := by
  have qs : ∀ (w : World) a n c, (binOp .eql 35 (.slice a n c) (.slice none 0 0)).run Try.prog w = .ok (.bool a.isNone) w := fun w a n c => Lib.run_eql_slice_nil w 35 45 a n c 0 0 Try.underlying35
  have hmk := run_make_cells (P := Try.prog) 27 41 _ _ 3 16 Try.underlying27 Try.info41 rfl .i64 .i64 m (by omega) (by omega)
  have hB0 : Below w.heap.size w (w.alloc (.cells (madeCells #[.int .u32 0, .int .u32 0, .int .u64 0] (m * 3)) 41)) := (Below.refl _ _).alloc (Nat.le_refl _) _
  have hR0 := rps_made F w m 41
  have HB0 := hide hB0
  have HR0 := hide hR0
  have HZ := hide hz
  clear hz hB0 hR0
  go_enter Try.func12, Try.ntmps12
  go_wp2
  clear hmk qs
  go_loopg [4] m (fun g i wr => ∃ k : Nat, k ≤ m ∧ g = m - k ∧ i = .int .i64 k ∧ wr.rowIs w.heap.size 41 (m * 3) (rps F k) ∧ Below w.heap.size w wr)
  case atStart => exact ⟨0, Nat.zero_le _, rfl, rfl, HR0.out, HB0.out⟩
  case round =>
    clear HB0 HR0
    obtain ⟨k, hk, rfl, rfl, hrow, hbel⟩ := hrel
    by_cases hkm : k < m
    · have hkz : (k : Int) < (m : Int) := by omega
      have f0 := hrow.frozen (k * 3)
      have f1 := hrow.frozen (k * 3 + 1)
      have f2 := hrow.frozen (k * 3 + 2)
      have r0 := hrow.cell (i := k * 3) (by omega)
      have r1 := hrow.cell (i := k * 3 + 1) (by omega)
      have r2 := hrow.cell (i := k * 3 + 2) (by omega)
      rw [rps_0, if_neg (Nat.lt_irrefl k)] at r0
      rw [rps_1, if_neg (Nat.lt_irrefl k)] at r1
      rw [rps_2, if_neg (Nat.lt_irrefl k)] at r2
      obtain ⟨rfl⟩ := HZ.out.1 (by omega)
      obtain ⟨h0, h1, h2⟩ := (HZ.out.below hbel).2.2.1 k hkm
      have hbl : b < w.heap.size := World.block_lt_of_cell? _ _ (HZ.out.2.2.1 k hkm).1
      have hne : b ≠ w.heap.size := by omega
      have hne' : w.heap.size ≠ b := by omega
      go_wp2
      go_region_held3 (fun w' => w'.cell? ⟨b, off + k * 3, none⟩ = some (.int .u32 (F k).rd) ∧ w'.cell? ⟨b, off + k * 3 + 1, none⟩ = some (.int .u32 (F k).sp) ∧ w'.cell? ⟨b, off + k * 3 + 2, none⟩ = some (.int .u64 (F k).sq)) (go_keep) (fail)
      go_wp2
      go_roundg (m - (k + 1))
      case measure => omega
      case rel =>
        exact ⟨k + 1, by omega, rfl, by go_num, (rps_set hrow).drew, (((hbel.setCell (by simp) _).setCell (by simp) _).setCell (by simp) _).drew⟩
    · obtain rfl : k = m := by omega
      go_wp2
      go_ret
      exact ⟨_, _, _, rfl, RpAt.of_row (t := 41) hrow HZ.out.2.2.2, Nat.le_refl _, hbel⟩

theorem torepls_all (ad : Option Addr) (m cap b off : Nat) (F : Nat → Rp) (w : World) (hm : m ≤ 65536) (hz : RpAt w ad m b off F) : Calls Try.prog 12 #[.slice ad m cap] w (RpPost m F w) := by
  cases ad with
  | none =>
    obtain rfl := hz.2.1 rfl
    exact torepls_nil cap F w
  | some a => exact torepls_any a m cap b off F w hm hz

/-- The first place among the k from j on, of n, where x lies. -/
def idxFrom (f : Nat → Int) (x : Int) : Nat → Nat → Int
  | 0, _ => -1
  | k + 1, j => if x = f j then (j : Int) else idxFrom f x k (j + 1)

set_option maxHeartbeats 1000000 in
theorem index16 (b off n cap : Nat) (f : Nat → Int) (x : Int) (w : World) (hn : n ≤ 65536) (hc : ∀ i, i < n → w.cell? ⟨b, off + i, none⟩ = some (.int .u32 (f i))) :
    Calls Try.prog 16 #[.slice (some ⟨b, off, none⟩) n cap, .int .u32 x] w fun e w' => e = .returned (.int .i64 (idxFrom f x n 0)) ∧ w = w' := by
  have HC := hide hc
  clear hc
  go_enter Try.func16, Try.ntmps16
  go_wp2
  go_loopg [8] n (fun g i wr => ∃ k : Nat, k ≤ n ∧ g = n - k ∧ i = .int .i64 k ∧ w = wr ∧ Hid (idxFrom f x (n - k) k = idxFrom f x n 0))
  case atStart => exact ⟨0, Nat.zero_le _, rfl, rfl, rfl, rfl⟩
  case round =>
    obtain ⟨k, hk, rfl, rfl, rfl, hI⟩ := hrel
    by_cases hkn : k < n
    · have hkz : (k : Int) < (n : Int) := by omega
      have hck := HC.out k hkn
      have HI : Hid (idxFrom f x n 0 = if x = f k then (k : Int) else idxFrom f x (n - (k + 1)) (k + 1)) := by
        show _ = _
        rw [← hI.out, show n - k = (n - (k + 1)) + 1 by omega, idxFrom]
      clear hI
      by_cases hx : x = f k
      · have HJ : Hid (idxFrom f x n 0 = (k : Int)) := by
          show _ = _
          rw [HI.out, if_pos hx]
        have hxb : (x == f k) = true := by simpa using hx
        have HX := hide hx
        clear hx HI
        go_wp2
        go_ret
        refine ⟨?_, rfl⟩
        rw [HJ.out]
        rfl
      · have HJ : Hid (idxFrom f x (n - (k + 1)) (k + 1) = idxFrom f x n 0) := by
          show _ = _
          rw [HI.out, if_neg hx]
        have hxb : (x == f k) = false := by simpa using hx
        have HX := hide hx
        clear hx HI
        go_wp2
        go_roundg (n - (k + 1))
        case measure => omega
        case rel => exact ⟨k + 1, by omega, rfl, by go_num, rfl, HJ⟩
    · obtain rfl : k = n := by omega
      go_wp2
      go_ret
      refine ⟨?_, rfl⟩
      rw [← hI.out, Nat.sub_self]
      rfl

end Go.Proofs.Qxb6604102a
