/-
  THE WALKS THAT THE SEAT's LAWS SHARE: InitialOrder (10), listsMembers (15), ZZListsMembers (9).
-/
import Derived.Test.Qxb6604102aProg
import Derived.KernelRfl
import Derived.WalkKit
import Derived.WalkSpells
import Derived.WalkLawsBesides
import Derived.Deep.LoopGhost
import Derived.Deep.OwnRows
import Derived.Deep.Light
namespace Go.Proofs.Qxb6604102a
open Go.RowKit

theorem Try.info4 : (Try.prog.info? 4).map (fun i => (i.zero, i.size, i.bytes)) = some (some (.bool false), 1, 1) := by kernel_rfl
theorem Try.info32 : (Try.prog.info? 32).map (fun i => (i.zero, i.size, i.bytes)) = some (some (.int .u32 0), 1, 4) := by kernel_rfl

/-- The first k ids lie in 1..L and no two of them are equal. -/
def Ok (f : Nat → Int) (L : Int) (k : Nat) : Prop := ∀ i, i < k → 1 ≤ f i ∧ f i ≤ L ∧ ∀ j, j < i → f j ≠ f i
theorem Ok.zero (f : Nat → Int) (L : Int) : Ok f L 0 := fun _ hi => absurd hi (Nat.not_lt_zero _)
/-- x is among the first k ids. -/
def seen (f : Nat → Int) (k x : Nat) : Bool := (List.range k).any fun j => f j == (x : Int)
theorem seen_iff (f : Nat → Int) (k x : Nat) : seen f k x = true ↔ ∃ j, j < k ∧ f j = (x : Int) := by
  simp [seen]
theorem seen_zero (f : Nat → Int) (x : Nat) : seen f 0 x = false := rfl
theorem seen_succ (f : Nat → Int) (k x : Nat) : seen f (k + 1) x = (seen f k x || (f k == (x : Int))) := by
  simp [seen, List.range_succ]
theorem Ok.succ {f : Nat → Int} {L : Int} {k x : Nat} (h : Ok f L k) (hx : f k = (x : Int)) (h1 : 1 ≤ x) (h2 : (x : Int) ≤ L) (h3 : seen f k x = false) : Ok f L (k + 1) := by
  intro i hi
  by_cases e : i = k
  · subst e
    refine ⟨by omega, by omega, fun j hj e' => ?_⟩
    have := (seen_iff f i x).2 ⟨j, hj, by omega⟩
    rw [h3] at this
    cases this
  · exact h i (by omega)
theorem Ok.lt {f : Nat → Int} {L : Int} {k m : Nat} (h : Ok f L m) (hk : k < m) : 1 ≤ f k ∧ f k ≤ L ∧ ∀ x : Nat, f k = (x : Int) → seen f k x = false := by
  refine ⟨(h k hk).1, (h k hk).2.1, fun x hx => ?_⟩
  cases hs : seen f k x with
  | false => rfl
  | true =>
    obtain ⟨j, hj, hj'⟩ := (seen_iff f k x).1 hs
    exact absurd (hj'.trans hx.symm) ((h k hk).2.2 j hj)

/-- What listsMembers leaves: the answer, and nothing that was there has turned. -/
def ListsPost (f : Nat → Int) (l m : Nat) (n : Int) (w : World) (e : Ending) (w' : World) : Prop :=
  ∃ r : Bool, e = .returned (.bool r) ∧ (r = true ↔ (m : Int) = n ∧ Ok f l m) ∧ Below w.heap.size w w'
theorem ListsPost.no {f : Nat → Int} {l m : Nat} {n : Int} {w w' : World} (h : ¬ ((m : Int) = n ∧ Ok f l m)) (hb : Below w.heap.size w w') : ListsPost f l m n w (.returned (.bool false)) w' :=
  ⟨false, rfl, by simpa using h, hb⟩
theorem ListsPost.yes {f : Nat → Int} {l m : Nat} {n : Int} {w w' : World} (h : (m : Int) = n ∧ Ok f l m) (hb : Below w.heap.size w w') : ListsPost f l m n w (.returned (.bool true)) w' :=
  ⟨true, rfl, by simpa using h, hb⟩

set_option maxHeartbeats 1000000 in
theorem lists_any (v u : Int) (ad : Option Addr) (b off m cap : Nat) (f : Nat → Int) (n : Int) (l : Nat) (w : World) (hl : l ≤ 65536) (hm : m ≤ 281474976710656)
    (had : 0 < m → ad = some ⟨b, off, none⟩) (hc : ∀ i, i < m → w.cell? ⟨b, off + i, none⟩ = some (.int .u32 (f i))) (hf : ∀ i, i < m → 0 ≤ f i ∧ f i ≤ 4294967295) :
    Calls Try.prog 15 #[.agg #[.int .u64 v, .int .u64 u, .slice ad m cap, .slice none 0 0], .int .i64 n, .int .i64 l] w (ListsPost f l m n w) := by
  by_cases hn : (m : Int) = n
  · subst hn
    have hmk := run_make_row' (P := Try.prog) 43 4 (.bool false) 1 Try.underlying43 Try.info4 rfl .i64 .i64 (l + 1) (by omega) (by omega)
    have ec : ((l + 1 : Nat) : Int) = (l : Int) + 1 := by omega
    rw [ec] at hmk
    clear ec
    go_enter Try.func15, Try.ntmps15
    go_wp2
    clear hmk
    have hB0 : Below w.heap.size w ((w.alloc (.cells #[.int .u64 v, .int .u64 u, .slice ad m cap, .slice none 0 0] 29)).alloc (.cells (madeCells #[.bool false] (l + 1)) 4)) := ((Below.refl _ _).alloc (Nat.le_refl _) _).alloc (by simp) _
    have hR0 : ((w.alloc (.cells #[.int .u64 v, .int .u64 u, .slice ad m cap, .slice none 0 0] 29)).alloc (.cells (madeCells #[.bool false] (l + 1)) 4)).rowIs (w.heap.size + 1) 4 (l + 1) (fun x => .bool (seen f 0 x)) := by
      have h := World.rowIs_made (w.alloc (.cells #[.int .u64 v, .int .u64 u, .slice ad m cap, .slice none 0 0] 29)) (.bool false) (l + 1) 4
      simpa [seen_zero] using h
    go_loopg [21] m (fun g i wr => ∃ k : Nat, k ≤ m ∧ g = m - k ∧ i = .int .i64 k ∧ wr.rowIs (w.heap.size + 1) 4 (l + 1) (fun x => .bool (seen f k x)) ∧ Below w.heap.size w wr ∧ Ok f l k)
    case atStart => exact ⟨0, Nat.zero_le _, rfl, rfl, hR0, hB0, Ok.zero _ _⟩
    case round =>
      clear hB0 hR0
      obtain ⟨k, hk, rfl, rfl, hrow, hbel, hok⟩ := hrel
      by_cases hkm : k < m
      · obtain rfl := had (by omega)
        have hkz : (k : Int) < (m : Int) := by omega
        obtain ⟨h0, h1⟩ := hf k hkm
        obtain ⟨x, hx⟩ := Int.eq_ofNat_of_zero_le h0
        have hcell : wr.cell? ⟨b, off + k, none⟩ = some (.int .u32 x) := by
          rw [← hx]; exact (hbel.cell (World.block_lt_of_cell? _ _ (hc k hkm))).trans (hc k hkm)
        have hxb : (x : Int) ≤ 4294967295 := by omega
        have HX : Hid (f k = (x : Int)) := hx
        have HF : Hid (∀ i, i < m → 0 ≤ f i ∧ f i ≤ 4294967295) := hf
        have HC : Hid (∀ i, i < m → w.cell? ⟨b, off + i, none⟩ = some (.int .u32 (f i))) := hc
        clear hx hf hc h0 h1 had
        by_cases c1 : (x : Int) < 1
        · go_wp2
          go_ret
          refine ListsPost.no ?_ hbel
          have hx := HX.out
          rintro ⟨_, hO⟩
          have := (hO.lt hkm).1
          omega
        · by_cases c2 : (l : Int) < (x : Int)
          · go_wp2
            go_ret
            refine ListsPost.no ?_ hbel
            have hx := HX.out
            rintro ⟨_, hO⟩
            have := (hO.lt hkm).2.1
            omega
          · have hxl : x < l + 1 := by omega
            have hs := hrow.cell hxl
            have hfz := hrow.frozen x
            cases hsn : seen f k x with
            | true =>
              rw [hsn] at hs
              go_wp2
              go_ret
              refine ListsPost.no ?_ hbel
              rintro ⟨_, hO⟩
              have := (hO.lt hkm).2.2 x HX.out
              rw [hsn] at this
              cases this
            | false =>
              rw [hsn] at hs
              go_wp2
              go_roundg (m - (k + 1))
              case measure => omega
              case rel =>
                refine ⟨k + 1, by omega, rfl, by go_num, (hrow.set x (.bool true)).congr (fun j _ => ?_), hbel.setCell (by simp) _, hok.succ HX.out (by omega) (by omega) hsn⟩
                have hx := HX.out
                rw [seen_succ, hx]
                by_cases e : j = x
                · subst e; simp
                · rw [if_neg e]
                  have : ((x : Int) == (j : Int)) = false := beq_eq_false_iff_ne.2 (by omega)
                  rw [this, Bool.or_false]
      · obtain rfl : k = m := by omega
        go_wp2
        go_ret
        exact ListsPost.yes ⟨rfl, hok⟩ hbel
  · have hn' : ((m : Int) != n) = true := by rw [bne_iff_ne]; exact hn
    go_enter Try.func15, Try.ntmps15
    go_wp2
    go_ret
    exact ListsPost.no (fun h => hn h.1) ((Below.refl _ _).alloc (Nat.le_refl _) _)

theorem zzlists_any (v u : Int) (ad : Option Addr) (b off m cap : Nat) (f : Nat → Int) (n : Int) (l : Nat) (w : World) (hl : l ≤ 65536) (hm : m ≤ 281474976710656)
    (had : 0 < m → ad = some ⟨b, off, none⟩) (hc : ∀ i, i < m → w.cell? ⟨b, off + i, none⟩ = some (.int .u32 (f i))) (hf : ∀ i, i < m → 0 ≤ f i ∧ f i ≤ 4294967295) :
    Calls Try.prog 9 #[.agg #[.int .u64 v, .int .u64 u, .slice ad m cap, .slice none 0 0], .int .i64 n, .int .i64 l] w (ListsPost f l m n w) := by
  have hc' := fun o => lists_any v u ad b off m cap f n l (w.alloc o) hl hm had (fun i hi => by rw [World.cell?_alloc_old _ _ _ (Nat.ne_of_lt (World.block_lt_of_cell? _ _ (hc i hi)))]; exact hc i hi) hf
  clear hc hf had
  go_enter Try.func9, Try.ntmps9
  go_wp2_with fail
  refine (hc' _).mono ?_
  rintro e w' ⟨r, rfl, hr, hb⟩
  clear hc'
  go_wp2
  go_ret
  exact ⟨r, rfl, hr, ((Below.refl _ _).alloc (Nat.le_refl _) _).trans (hb.mono (by simp))⟩

/-- What InitialOrder leaves: a new row of the ids 1..n. -/
def InitPost (n : Nat) (w : World) (e : Ending) (w' : World) : Prop :=
  ∃ g, w.heap.size ≤ g ∧ e = .returned (.agg #[.int .u64 0, .int .u64 0, .slice (some ⟨g, 0, none⟩) n n, .slice none 0 0]) ∧ w'.rowIs g 32 n (fun i => .int .u32 ((i : Int) + 1)) ∧ Below w.heap.size w w'

set_option maxHeartbeats 1000000 in
theorem init_any (n : Nat) (w : World) (hn : n ≤ 65536) : Calls Try.prog 10 #[.int .i64 n] w (InitPost n w) := by
  have hmk := run_make_row' (P := Try.prog) 25 32 (.int .u32 0) 4 Try.underlying25 Try.info32 rfl .i64 .i64 n (by omega) (by omega)
  go_enter Try.func10, Try.ntmps10
  go_wp2
  clear hmk
  have hB0 : Below w.heap.size w ((w.alloc (.cells #[.int .u64 0, .int .u64 0, .slice none 0 0, .slice none 0 0] 29)).alloc (.cells (madeCells #[.int .u32 0] n) 32)) := ((Below.refl _ _).alloc (Nat.le_refl _) _).alloc (by simp) _
  have hR0 : ((w.alloc (.cells #[.int .u64 0, .int .u64 0, .slice none 0 0, .slice none 0 0] 29)).alloc (.cells (madeCells #[.int .u32 0] n) 32)).rowIs (w.heap.size + 1) 32 n (fun i => if i < 0 then .int .u32 ((i : Int) + 1) else .int .u32 0) := by
    have h := World.rowIs_made (w.alloc (.cells #[.int .u64 0, .int .u64 0, .slice none 0 0, .slice none 0 0] 29)) (.int .u32 0) n 32
    simpa using h
  have hH0 : ((w.alloc (.cells #[.int .u64 0, .int .u64 0, .slice none 0 0, .slice none 0 0] 29)).alloc (.cells (madeCells #[.int .u32 0] n) 32)).heap[w.heap.size]? = some (.cells #[.int .u64 0, .int .u64 0, .slice none 0 0, .slice none 0 0] 29 (0, 0)) := by
    rw [Below.heap_alloc _ _ _ (by simp)]
    exact heap_alloc_new w _
  go_loopg [9] n (fun g i wr => ∃ k : Nat, k ≤ n ∧ g = n - k ∧ i = .int .i64 k ∧ wr.rowIs (w.heap.size + 1) 32 n (fun i => if i < k then .int .u32 ((i : Int) + 1) else .int .u32 0) ∧ Below w.heap.size w wr ∧
    wr.heap[w.heap.size]? = some (.cells #[.int .u64 0, .int .u64 0, .slice none 0 0, .slice none 0 0] 29 (0, 0)))
  case atStart => exact ⟨0, Nat.zero_le _, rfl, rfl, hR0, hB0, hH0⟩
  case round =>
    clear hB0 hR0 hH0
    obtain ⟨k, hk, rfl, rfl, hrow, hbel, hh⟩ := hrel
    by_cases hkn : k < n
    · have hkz : (k : Int) < (n : Int) := by omega
      have hfz := hrow.frozen k
      have hs := hrow.cell hkn
      have HH : Hid (wr.heap[w.heap.size]? = some (.cells #[.int .u64 0, .int .u64 0, .slice none 0 0, .slice none 0 0] 29 (0, 0))) := hh
      clear hh
      rw [if_neg (Nat.lt_irrefl k)] at hs
      go_wp2
      go_roundg (n - (k + 1))
      case measure => omega
      case rel =>
        refine ⟨k + 1, by omega, rfl, by go_num, (hrow.set k _).congr (fun j _ => ?_), hbel.setCell (by simp) _, ?_⟩
        · by_cases e : j = k
          · subst e; simp
          · rw [if_neg e]
            by_cases hj : j < k
            · rw [if_pos hj, if_pos (by omega)]
            · rw [if_neg hj, if_neg (by omega)]
        · rw [Below.heap_setCell _ _ _ _ (by simp)]
          exact HH.out
    · obtain rfl : k = n := by omega
      have c0 : wr.cell? ⟨w.heap.size, 0, none⟩ = some (.int .u64 0) := by simp [World.cell?, hh]
      have c1 : wr.cell? ⟨w.heap.size, 1, none⟩ = some (.int .u64 0) := by simp [World.cell?, hh]
      have c2 : wr.cell? ⟨w.heap.size, 2, none⟩ = some (.slice none 0 0) := by simp [World.cell?, hh]
      have c3 : wr.cell? ⟨w.heap.size, 3, none⟩ = some (.slice none 0 0) := by simp [World.cell?, hh]
      have f0 : ∀ j, wr.frozen? ⟨w.heap.size, j, none⟩ = false := fun j => by simp [World.frozen?, hh]
      clear hh
      go_wp2
      refine bodyPost_ret (v := .agg #[.int .u64 0, .int .u64 0, .slice (some ⟨w.heap.size + 1, 0, none⟩) k k, .slice none 0 0]) (by simp [results, Try.results10, go_sem, c0, c1, c2, c3]) rfl ?_
      refine ⟨w.heap.size + 1, by omega, rfl, ?_, (((hbel.setCell (by simp) _).setCell (by simp) _).setCell (by simp) _).setCell (by simp) _⟩
      exact ((((hrow.setOther (by simp) _).setOther (by simp) _).setOther (by simp) _).setOther (by simp) _).congr (fun i hi => if_pos hi)

end Go.Proofs.Qxb6604102a
