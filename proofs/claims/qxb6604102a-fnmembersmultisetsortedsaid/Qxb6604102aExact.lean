/-
  THE WALKS of 'FnListsMembersExact': zzToIDs (8), zzBytes (7), the law (3).
-/
import Derived.Test.Qxb6604102aLists
import Derived.Deep.QuietTactic
import Derived.BigQuiet
namespace Go.Proofs.Qxb6604102a
open Go.RowKit

theorem hide {p : Prop} (h : p) : Hid p := h

theorem bytes7_yes (a0 a1 a3 a4 : Int) (ad : Option Addr) (m cap : Nat) (w : World) (h : m ≤ 1048576) :
    Calls Try.prog 7 #[.int .u64 a0, .int .u64 a1, .slice ad m cap, .int .i64 a3, .int .i64 a4] w fun e w' => e = .returned (.bool true) ∧ w = w' := by
  go_enter Try.func7, Try.ntmps7
  go_wp2
  go_ret
  exact ⟨rfl, rfl⟩
theorem bytes7_no (a0 a1 a3 a4 : Int) (ad : Option Addr) (m cap : Nat) (w : World) (h : ¬ m ≤ 1048576) :
    Calls Try.prog 7 #[.int .u64 a0, .int .u64 a1, .slice ad m cap, .int .i64 a3, .int .i64 a4] w fun e w' => e = .returned (.bool false) ∧ w = w' := by
  go_enter Try.func7, Try.ntmps7
  go_wp2
  go_ret
  exact ⟨rfl, rfl⟩

/-- What zzToIDs leaves: a copy of the ids in memory of its own (nil stays nil). -/
def CopyPost (f : Nat → Int) (m : Nat) (w : World) (e : Ending) (w' : World) : Prop :=
  ∃ ad g cap, e = .returned (.slice ad m cap) ∧ (0 < m → ad = some ⟨g, 0, none⟩) ∧ (∀ i, i < m → w'.cell? ⟨g, i, none⟩ = some (.int .u32 (f i))) ∧ Below w.heap.size w w'

theorem toids_nil (f : Nat → Int) (w : World) : Calls Try.prog 8 #[.slice none 0 0] w (CopyPost f 0 w) := by
  have q23 : ∀ (w : World) a n c, (binOp .eql 23 (.slice a n c) (.slice none 0 0)).run Try.prog w = .ok (.bool a.isNone) w := fun w a n c => Lib.run_eql_slice_nil w 23 31 a n c 0 0 Try.underlying23
  go_enter Try.func8, Try.ntmps8
  go_wp2
  go_ret
  exact ⟨none, 0, 0, rfl, fun h => absurd h (Nat.lt_irrefl _), fun i hi => absurd hi (Nat.not_lt_zero _), Below.refl _ _⟩

set_option maxHeartbeats 1000000 in
theorem toids_any (f : Nat → Int) (a : Addr) (m cap : Nat) (w : World) (hm : m ≤ 65536) (hc : ∀ i, i < m → w.cell? (a.add i) = some (.int .u32 (f i))) : Calls Try.prog 8 #[.slice (some a) m cap] w (CopyPost f m w) := by
  have q23 : ∀ (w : World) a n c, (binOp .eql 23 (.slice a n c) (.slice none 0 0)).run Try.prog w = .ok (.bool a.isNone) w := fun w a n c => Lib.run_eql_slice_nil w 23 31 a n c 0 0 Try.underlying23
  have hmk := run_make_row' (P := Try.prog) 25 32 (.int .u32 0) 4 Try.underlying25 Try.info32 rfl .i64 .i64 m (by omega) (by omega)
  have hB0 : Below w.heap.size w (w.alloc (.cells (madeCells #[.int .u32 0] m) 32)) := (Below.refl _ _).alloc (Nat.le_refl _) _
  have hR0 : (w.alloc (.cells (madeCells #[.int .u32 0] m) 32)).rowIs w.heap.size 32 m (fun i => if i < 0 then .int .u32 (f i) else .int .u32 0) := by
    simpa using World.rowIs_made w (.int .u32 0) m 32
  go_enter Try.func8, Try.ntmps8
  go_wp2
  clear hmk q23
  go_loopg [4] m (fun g i wr => ∃ k : Nat, k ≤ m ∧ g = m - k ∧ i = .int .i64 k ∧ wr.rowIs w.heap.size 32 m (fun i => if i < k then .int .u32 (f i) else .int .u32 0) ∧ Below w.heap.size w wr)
  case atStart => exact ⟨0, Nat.zero_le _, rfl, rfl, hR0, hB0⟩
  case round =>
    clear hB0 hR0
    obtain ⟨k, hk, rfl, rfl, hrow, hbel⟩ := hrel
    by_cases hkm : k < m
    · have hkz : (k : Int) < (m : Int) := by omega
      have hfz := hrow.frozen k
      have hs := hrow.cell hkm
      rw [if_neg (Nat.lt_irrefl k)] at hs
      obtain ⟨b, off, spot⟩ := a
      have hspot : spot = none := by simpa [Addr.add] using World.cell?_spot (hc 0 (by omega))
      subst hspot
      have hck : w.cell? ⟨b, off + k, none⟩ = some (.int .u32 (f k)) := by rw [← WideShapes.add_plain]; exact hc k hkm
      have hcell : wr.cell? ⟨b, off + k, none⟩ = some (.int .u32 (f k)) := (hbel.cell (World.block_lt_of_cell? _ _ hck)).trans hck
      have HC := hide hc
      clear hc hck
      go_wp2
      go_roundg (m - (k + 1))
      case measure => omega
      case rel =>
        refine ⟨k + 1, by omega, rfl, by go_num, (hrow.set k _).congr (fun j _ => ?_), hbel.setCell (by simp) _⟩
        by_cases e : j = k
        · subst e; simp
        · rw [if_neg e]
          by_cases hj : j < k
          · rw [if_pos hj, if_pos (by omega)]
          · rw [if_neg hj, if_neg (by omega)]
    · obtain rfl : k = m := by omega
      go_wp2
      go_ret
      exact ⟨some ⟨w.heap.size, 0, none⟩, w.heap.size, k, rfl, fun _ => rfl, fun i hi => (hrow.cell hi).trans (by rw [if_pos hi]), hbel⟩

/-- What the law leaves. -/
def Good (w : World) (e : Ending) (w' : World) : Prop := e = .returned (.bool true) ∧ Below w.heap.size w w'

/-- The outer loop's relation on 'want'. -/
def InvO (f : Nat → Int) (l m k : Nat) (n : Int) (W : Bool) : Prop := (W = true ∧ Ok f l k ∧ (m : Int) = n) ∨ (W = false ∧ ¬ ((m : Int) = n ∧ Ok f l m))
/-- The inner loop's. -/
def InvI (f : Nat → Int) (l m k j : Nat) (n : Int) (W : Bool) : Prop :=
  (W = true ∧ Ok f l k ∧ (m : Int) = n ∧ 1 ≤ f k ∧ f k ≤ l ∧ ∀ i, i < j → f i ≠ f k) ∨ (W = false ∧ ¬ ((m : Int) = n ∧ Ok f l m))
theorem InvI.outer {f : Nat → Int} {l m k : Nat} {n : Int} {W : Bool} (h : InvI f l m k k n W) : InvO f l m (k + 1) n W := by
  rcases h with ⟨rfl, h1, h2, h3, h4, h5⟩ | h
  · refine .inl ⟨rfl, fun i hi => ?_, h2⟩
    by_cases e : i = k
    · subst e; exact ⟨h3, h4, h5⟩
    · exact h1 i (by omega)
  · exact .inr h

set_option maxHeartbeats 4000000 in
theorem exact_main (a0 a1 : Int) (ad : Option Addr) (m cap : Nat) (f : Nat → Int) (n : Int) (l : Nat) (w : World) (hm : m ≤ 65536) (hl : l ≤ 65536) (hf : ∀ i, i < m → 0 ≤ f i ∧ f i ≤ 4294967295)
    (hcp : ∀ w0, Below w.heap.size w w0 → Calls Try.prog 8 #[.slice ad m cap] w0 (CopyPost f m w0)) :
    Calls Try.prog 3 #[.int .u64 a0, .int .u64 a1, .slice ad m cap, .int .i64 n, .int .i64 l] w (Good w) := by
  have t1 : decide ((65536 : Int) < (m : Int)) = false := by simp; omega
  have t2 : decide ((l : Int) < 0) = false := by simp
  have t3 : decide ((65536 : Int) < (l : Int)) = false := by simp; omega
  go_enter Try.func3, Try.ntmps3
  go_wp2_with fail
  refine (bytes7_yes a0 a1 n l ad m cap w (by omega)).mono ?_
  rintro e w0 ⟨rfl, rfl⟩
  go_wp2_with fail
  refine (hcp w (Below.refl _ _)).mono ?_
  rintro e w1 ⟨ad', g, cap', rfl, had, hcell, hb⟩
  clear hcp
  have HA := hide had
  have HC := hide hcell
  have HF := hide hf
  clear had hcell hf
  go_wp2_with fail
  clear t1 t2 t3
  have hcW : ∀ (o : Obj) (i : Nat), i < m → (w1.alloc o).cell? ⟨g, i, none⟩ = some (.int .u32 (f i)) := fun o i hi => by
    rw [World.cell?_alloc_old _ _ _ (Nat.ne_of_lt (World.block_lt_of_cell? _ _ (HC.out i hi)))]; exact HC.out i hi
  have HW := hide hcW
  clear hcW
  refine (zzlists_any a0 a1 ad' g 0 m cap' f n l _ (by omega) (by omega) HA.out (fun i hi => by rw [Nat.zero_add]; exact HW.out _ i hi) HF.out).mono ?_
  rintro e w2 ⟨r, rfl, hr, hb2⟩
  have hB : Below w.heap.size w w2 := (hb.alloc hb.size _).trans (hb2.mono (by have := hb.size; simp; omega))
  have HC2 : Hid (∀ i, i < m → w2.cell? ⟨g, i, none⟩ = some (.int .u32 (f i))) := fun i hi => (hb2.cell (World.block_lt_of_cell? _ _ (HW.out _ i hi))).trans (HW.out _ i hi)
  clear hb2 HW HC hb
  have HR := hide hr
  clear hr
  obtain ⟨W0, hW0⟩ : ∃ W0 : Bool, ((m : Int) == n) = W0 := ⟨_, rfl⟩
  have hI0 : InvO f l m 0 n W0 := by
    subst hW0
    by_cases e : (m : Int) = n
    · exact .inl ⟨beq_iff_eq.2 e, Ok.zero _ _, e⟩
    · exact .inr ⟨beq_eq_false_iff_ne.2 e, fun h => e h.1⟩
  go_wp2
  clear hW0
  go_loopg [14, 15] m (fun gg s14 s15 wr => ∃ (k : Nat) (W : Bool), k ≤ m ∧ gg = m - k ∧ s14 = .bool W ∧ s15 = .int .i64 k ∧ InvO f l m k n W ∧ Below w2.heap.size w2 wr)
  case atStart => exact ⟨0, W0, Nat.zero_le _, rfl, rfl, rfl, hI0, Below.refl _ _⟩
  case round =>
    clear hI0
    obtain ⟨k, W, hk, rfl, rfl, rfl, hI, hb⟩ := hrel
    have hfin : Below w.heap.size w wr := hB.trans (hb.mono hB.size)
    cases W with
    | false =>
      have hr : r = false := by
        rcases hI with ⟨h, _⟩ | ⟨_, h⟩
        · cases h
        · cases hrr : r with
          | false => rfl
          | true => exact absurd (HR.out.1 hrr) h
      subst hr
      by_cases hkm : k < m
      · have hkz : (k : Int) < (m : Int) := by omega
        go_wp2
        go_ret
        exact ⟨rfl, hfin⟩
      · have hkz : decide ((k : Int) < (m : Int)) = false := by simp; omega
        go_wp2
        go_ret
        exact ⟨rfl, hfin⟩
    | true =>
      have hI' : Ok f l k ∧ (m : Int) = n := by
        rcases hI with ⟨_, h⟩ | ⟨h, _⟩
        · exact h
        · cases h
      by_cases hkm : k < m
      · have hkz : (k : Int) < (m : Int) := by omega
        obtain rfl := HA.out (by omega)
        obtain ⟨x0, x1⟩ := HF.out k hkm
        have hck : wr.cell? ⟨g, k, none⟩ = some (.int .u32 (f k)) := (hb.cell (World.block_lt_of_cell? _ _ (HC2.out k hkm))).trans (HC2.out k hkm)
        have HI := hide hI'
        clear hI hI'
        obtain ⟨wo, rfl⟩ : ∃ wo : World, wo = wr := ⟨_, rfl⟩
        have hJ : ∃ W, InvI f l m k 0 n W ∧ ((f k < 1 ∧ W = false) ∨ (¬ f k < 1 ∧ (l : Int) < f k ∧ W = false) ∨ (¬ f k < 1 ∧ ¬ (l : Int) < f k ∧ W = true)) := by
          by_cases c1 : f k < 1
          · exact ⟨false, .inr ⟨rfl, fun h => by have := (h.2 k hkm).1; omega⟩, .inl ⟨c1, rfl⟩⟩
          · by_cases c2 : (l : Int) < f k
            · exact ⟨false, .inr ⟨rfl, fun h => by have := (h.2 k hkm).2.1; omega⟩, .inr (.inl ⟨c1, c2, rfl⟩)⟩
            · exact ⟨true, .inl ⟨rfl, HI.out.1, HI.out.2, by omega, by omega, fun i hi => absurd hi (Nat.not_lt_zero _)⟩, .inr (.inr ⟨c1, c2, rfl⟩)⟩
        obtain ⟨W1, hJ, hc⟩ := hJ
        clear HI
        rcases hc with ⟨c1, rfl⟩ | ⟨c1, c2, rfl⟩ | ⟨c1, c2, rfl⟩
        all_goals
          go_wp2
          go_loopg [14, 16] k (fun gg s14 s16 wi => ∃ (j : Nat) (W : Bool), j ≤ k ∧ gg = k - j ∧ s14 = .bool W ∧ s16 = .int .i64 j ∧ InvI f l m k j n W ∧ Below w2.heap.size w2 wi)
          case atStart => exact ⟨0, _, Nat.zero_le _, rfl, rfl, rfl, hJ, hb⟩
          case round =>
            clear hJ hfin hb hck
            obtain ⟨j, W, hj, rfl, rfl, rfl, hJ, hb⟩ := hrel
            cases W with
            | false =>
              have hJ0 : ¬ ((m : Int) = n ∧ Ok f l m) := by
                rcases hJ with ⟨h, _⟩ | ⟨_, h⟩
                · cases h
                · exact h
              have HJ : Hid (InvO f l m (k + 1) n false) := .inr ⟨rfl, hJ0⟩
              clear hJ hJ0
              by_cases hjk : j < k
              · have hjz : (j : Int) < (k : Int) := by omega
                go_wp2
                go_roundg (m - (k + 1))
                case measure => omega
                case rel => exact ⟨k + 1, false, by omega, rfl, rfl, by go_num, HJ.out, hb⟩
              · have hjz : decide ((j : Int) < (k : Int)) = false := by simp; omega
                go_wp2
                go_roundg (m - (k + 1))
                case measure => omega
                case rel => exact ⟨k + 1, false, by omega, rfl, rfl, by go_num, HJ.out, hb⟩
            | true =>
              by_cases hjk : j < k
              · have hjz : (j : Int) < (k : Int) := by omega
                have hjm : (j : Int) < (m : Int) := by omega
                have hck : wr.cell? ⟨g, k, none⟩ = some (.int .u32 (f k)) := (hb.cell (World.block_lt_of_cell? _ _ (HC2.out k hkm))).trans (HC2.out k hkm)
                have hcj : wr.cell? ⟨g, j, none⟩ = some (.int .u32 (f j)) := (hb.cell (World.block_lt_of_cell? _ _ (HC2.out j (by omega)))).trans (HC2.out j (by omega))
                have hJ' : Ok f l k ∧ (m : Int) = n ∧ 1 ≤ f k ∧ f k ≤ l ∧ ∀ i, i < j → f i ≠ f k := by
                  rcases hJ with ⟨_, h⟩ | ⟨h, _⟩
                  · exact h
                  · cases h
                have HJ := hide hJ'
                clear hJ hJ'
                by_cases hjk' : f j = f k
                · have hq : (f j == f k) = true := beq_iff_eq.2 hjk'
                  have HN : Hid (InvI f l m k (j + 1) n false) := .inr ⟨rfl, fun h => (h.2 k hkm).2.2 j hjk hjk'⟩
                  clear hjk'
                  go_wp2
                  go_quiet (fail)
                  go_wp2
                  go_roundg (k - (j + 1))
                  case measure => omega
                  case rel => exact ⟨j + 1, false, by omega, rfl, rfl, by go_num, HN.out, below_drewN hb _⟩
                · have hq : (f j == f k) = false := beq_eq_false_iff_ne.2 hjk'
                  have HN : Hid (InvI f l m k (j + 1) n true) := .inl ⟨rfl, HJ.out.1, HJ.out.2.1, HJ.out.2.2.1, HJ.out.2.2.2.1, fun i hi => by
                    by_cases e : i = j
                    · subst e; exact hjk'
                    · exact HJ.out.2.2.2.2 i (by omega)⟩
                  clear hjk'
                  go_wp2
                  go_quiet (fail)
                  go_wp2
                  go_roundg (k - (j + 1))
                  case measure => omega
                  case rel => exact ⟨j + 1, true, by omega, rfl, rfl, by go_num, HN.out, below_drewN hb _⟩
              · have hjz : decide ((j : Int) < (k : Int)) = false := by simp; omega
                obtain rfl : j = k := by omega
                have HJ := hide hJ.outer
                clear hJ
                go_wp2
                go_roundg (m - (j + 1))
                case measure => omega
                case rel => exact ⟨j + 1, true, by omega, rfl, rfl, by go_num, HJ.out, hb⟩
      · have hkz : decide ((k : Int) < (m : Int)) = false := by simp; omega
        obtain rfl : k = m := by omega
        have hr : r = true := HR.out.2 ⟨hI'.2, hI'.1⟩
        subst hr
        clear hI hI'
        go_wp2
        go_ret
        exact ⟨rfl, hfin⟩

end Go.Proofs.Qxb6604102a
