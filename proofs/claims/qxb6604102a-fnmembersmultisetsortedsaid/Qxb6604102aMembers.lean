/-
  MEMBERS (13): what it leaves, over the plain lists.
-/
import Derived.Test.Qxb6604102aRepl
import Derived.Test.Qxb6604102aS14
import Derived.Lib.OwnBridge
namespace Go.Proofs.Qxb6604102a
open Go.RowKit

/-- One replacement: where x is among the members, one of them gives way to s. -/
def Step (l : List Int) (x s : Int) (l' : List Int) : Prop := (x ∉ l ∧ l' = l) ∨ ∃ j, j < l.length ∧ l.getD j 0 = x ∧ l' = l.set j s
/-- The first k replacements, one after the other, from 1..n on. -/
def Mem (n : Nat) (F : Nat → Rp) : Nat → List Int → Prop
  | 0, l => l = (List.range n).map fun i => ((i : Nat) : Int) + 1
  | k + 1, l' => ∃ l, Mem n F k l ∧ Step l (F k).rd (F k).sp l'
theorem Mem.length {n : Nat} {F : Nat → Rp} : ∀ {k : Nat} {l : List Int}, Mem n F k l → l.length = n
  | 0, l, h => by
    have h : l = _ := h
    simp [h]
  | k + 1, l, ⟨l0, h0, hs⟩ => by
    have := h0.length
    rcases hs with ⟨_, rfl⟩ | ⟨j, _, _, rfl⟩
    · exact this
    · simpa using this
theorem Mem.bound {n : Nat} {F : Nat → Rp} (hn : n ≤ 65536) (hF : ∀ i, 0 ≤ (F i).sp ∧ (F i).sp ≤ 4294967295) : ∀ {k : Nat} {l : List Int}, Mem n F k l → ∀ x ∈ l, 0 ≤ x ∧ x ≤ 4294967295
  | 0, l, h => by
    have h : l = _ := h
    subst h
    intro x hx
    obtain ⟨i, hi, rfl⟩ := List.mem_map.1 hx
    have := List.mem_range.1 hi
    omega
  | k + 1, l, ⟨l0, h0, hs⟩ => by
    intro x hx
    rcases hs with ⟨_, rfl⟩ | ⟨j, _, _, rfl⟩
    · exact h0.bound hn hF x hx
    · rcases List.mem_or_eq_of_mem_set hx with h | h
      · exact h0.bound hn hF x h
      · subst h; exact hF k

theorem idx_cases (f : Nat → Int) (x : Int) : ∀ (k j : Nat), (idxFrom f x k j = -1 ∧ ∀ i, i < k → f (j + i) ≠ x) ∨ ∃ i, i < k ∧ idxFrom f x k j = ((j + i : Nat) : Int) ∧ f (j + i) = x
  | 0, j => Or.inl ⟨rfl, fun _ h => absurd h (Nat.not_lt_zero _)⟩
  | k + 1, j => by
    by_cases hx : x = f j
    · exact Or.inr ⟨0, by omega, by simp [idxFrom, hx], hx.symm⟩
    · have e : idxFrom f x (k + 1) j = idxFrom f x k (j + 1) := by simp [idxFrom, hx]
      rw [e]
      rcases idx_cases f x k (j + 1) with ⟨h1, h2⟩ | ⟨i, h1, h2, h3⟩
      · refine Or.inl ⟨h1, fun i hi => ?_⟩
        cases i with
        | zero => exact fun h => hx h.symm
        | succ i => have := h2 i (by omega); rwa [show j + 1 + i = j + (i + 1) by omega] at this
      · exact Or.inr ⟨i + 1, by omega, by rw [h2]; congr 1; omega, by rwa [show j + 1 + i = j + (i + 1) by omega] at h3⟩

theorem getD_set (l : List Int) (j i : Nat) (s : Int) (hj : j < l.length) : (l.set j s).getD i 0 = if i = j then s else l.getD i 0 := by
  by_cases e : i = j
  · subst e; simp [List.getD, hj]
  · simp [List.getD, Ne.symm e, e]

theorem getBang (l : List Int) (i : Nat) : l.toArray[i]! = l.getD i 0 := by
  simp only [getElem!_def, List.getElem?_toArray, List.getD]
  cases l[i]? <;> rfl

/-- What Members leaves: a row of its own: the members, sorted. -/
def MembersPost (n m : Nat) (F : Nat → Rp) (w : World) (e : Ending) (w' : World) : Prop :=
  ∃ (g : Nat) (l zs : List Int), w.heap.size ≤ g ∧ e = .returned (.slice (some ⟨g, 0, none⟩) n n) ∧ Mem n F m l ∧ zs = l.mergeSort (fun x y => decide (x ≤ y)) ∧
    (∀ i, i < n → w'.cell? ⟨g, i, none⟩ = some (.int .u32 (zs.getD i 0))) ∧ RowKit.Below w.heap.size w w'

theorem members_end {n m : Nat} {F : Nat → Rp} {w wr w' : World} {g : Nat} {l : List Int} (hg : w.heap.size ≤ g) (hl : Mem n F m l) (hrow : wr.rowIs g 32 n (fun i => .int .u32 (l.getD i 0))) (hb : RowKit.Below w.heap.size w wr)
    (h : ∃ q os, w' = Sort.grow (Sort.putRow (Value.int .u32) (Sort.ahead wr q) g 0 (l.mergeSort fun x y => decide (x ≤ y)).toArray) os) : MembersPost n m F w (.returned (.slice (some ⟨g, 0, none⟩) n n)) w' := by
  obtain ⟨q, os, rfl⟩ := h
  have hlen := hl.length
  have hH : Sort.Holds (Value.int .u32) wr g 0 l.toArray := fun j hj => by
    have hj' : j < n := by simpa [hlen] using hj
    refine ⟨?_, by rw [Nat.zero_add]; exact hrow.frozen j⟩
    rw [Nat.zero_add, hrow.cell hj']
    rw [getBang]
  refine ⟨g, l, _, hg, rfl, hl, rfl, fun i hi => ?_, ?_⟩
  · have hs : (l.mergeSort fun x y => decide (x ≤ y)).toArray.size = l.toArray.size := by simp
    have hc := Sort.cell?_putRow (Value.int .u32) (Sort.ahead wr q) g 0 l.toArray _ (Sort.holds_ahead _ _ q _ _ _ hH) hs i (by simpa [hlen] using hi)
    rw [Nat.zero_add] at hc
    rw [Sort.cell?_grow _ _ _ (by simpa using hrow.lt), hc, getBang]
  · have h1 := Lib.below_putRow (enc := Value.int .u32) (q := q) (d := (l.mergeSort fun x y => decide (x ≤ y)).toArray) hb hg
    generalize Sort.putRow (Value.int .u32) (Sort.ahead wr q) g 0 _ = W at h1 ⊢
    exact ⟨h1.os, h1.tape, h1.output, by rw [Sort.size_grow]; exact Nat.le_trans h1.size (Nat.le_add_right _ _), fun k hk => by
      rw [Sort.heap_grow_old _ _ (Nat.lt_of_lt_of_le hk h1.size)]; exact h1.block k hk⟩

set_option maxHeartbeats 4000000 in
theorem members13 (n m cap b off : Nat) (ad : Option Addr) (F : Nat → Rp) (w : World) (hn : n ≤ 65536) (hm : m ≤ 65536) (hz : RpAt w ad m b off F) :
    Calls Try.prog 13 #[.int .i64 n, .slice ad m cap] w (MembersPost n m F w) := by
  have HZ := hide hz
  clear hz
  go_enter Try.func13, Try.ntmps13
  go_wp2_with fail
  refine (init_any n w hn).mono ?_
  rintro e w1 ⟨g, hg, rfl, hrow1, hbel1⟩
  have HR := hide hrow1
  have HB := hide hbel1
  have HG := hide hg
  clear hrow1 hbel1 hg
  have hfd : ∀ w : World, (Instr.field 29 (.agg #[.int .u64 0, .int .u64 0, .slice (some ⟨g, 0, none⟩) n n, .slice none 0 0]) 2).run Try.prog w = .ok (.slice (some ⟨g, 0, none⟩) n n) w := fun _ => by kernel_rfl
  go_wp2
  clear hfd
  go_loopg [14] m (fun gg i wr => ∃ (k : Nat) (l : List Int), k ≤ m ∧ gg = m - k ∧ i = .int .i64 k ∧ Hid (Mem n F k l) ∧ wr.rowIs g 32 n (fun i => .int .u32 (l.getD i 0)) ∧ RowKit.Below w.heap.size w wr)
  case atStart =>
    refine ⟨0, (List.range n).map fun i => ((i : Nat) : Int) + 1, Nat.zero_le _, rfl, rfl, rfl, HR.out.congr fun i hi => ?_, HB.out⟩
    simp [List.getD, hi]
  case round =>
    clear HR HB
    obtain ⟨k, l, hk, rfl, rfl, hl, hrow, hbel⟩ := hrel
    have hlen := hl.out.length
    by_cases hkm : k < m
    · have hkz : (k : Int) < (m : Int) := by omega
      obtain ⟨rfl⟩ := HZ.out.1 (by omega)
      obtain ⟨h0, h1, h2⟩ := (HZ.out.below hbel).2.2.1 k hkm
      have hbl : b < w.heap.size := World.block_lt_of_cell? _ _ (HZ.out.2.2.1 k hkm).1
      have hbl2 : b < wr.heap.size := World.block_lt_of_cell? _ _ h0
      have hgl : g < wr.heap.size := hrow.lt
      have HROW := hide hrow
      have HBEL := hide hbel
      have HLEN := hide hlen
      clear hrow hbel hlen
      go_wp2_with fail
      have hrowW := HROW.out.alloc (.cells #[.int .u32 (F k).rd, .int .u32 (F k).sp, .int .u64 (F k).sq] 41)
      have hbelW := HBEL.out.alloc (HBEL.out.size) (.cells #[.int .u32 (F k).rd, .int .u32 (F k).sp, .int .u64 (F k).sq] 41)
      have c1 : (wr.alloc (.cells #[.int .u32 (F k).rd, .int .u32 (F k).sp, .int .u64 (F k).sq] 41)).cell? ⟨wr.heap.size, 1, none⟩ = some (.int .u32 (F k).sp) := by
        rw [World.cell?_alloc_at _ _ _ _ rfl]; rfl
      have hgl2 : g ≠ wr.heap.size := by omega
      clear h0 h1 h2 HROW HBEL
      generalize wr.alloc (.cells #[.int .u32 (F k).rd, .int .u32 (F k).sp, .int .u64 (F k).sq] 41) = W at hrowW hbelW c1 ⊢
      refine (index16 g 0 n n (fun i => l.getD i 0) (F k).rd W hn (fun i hi => by rw [Nat.zero_add]; exact hrowW.cell hi)).mono ?_
      rintro e w2 ⟨rfl, rfl⟩
      rcases idx_cases (fun i => l.getD i 0) (F k).rd n 0 with ⟨hi, hnot⟩ | ⟨j, hj, hi, hx⟩
      · rw [hi]
        have hstep : Hid (Mem n F (k + 1) l) := by
          refine ⟨l, hl.out, Or.inl ⟨fun hmem => ?_, rfl⟩⟩
          obtain ⟨i, hil, hix⟩ := List.getElem_of_mem hmem
          refine hnot i (by rw [← HLEN.out]; exact hil) ?_
          simp [List.getD, hil, hix]
        clear hi hnot hl
        go_wp2
        go_roundg (m - (k + 1))
        case measure => omega
        case rel => exact ⟨k + 1, l, by omega, rfl, by go_num, hstep, hrowW, hbelW⟩
      · rw [hi]
        rw [Nat.zero_add] at hx ⊢
        have hjl : j < l.length := by rw [HLEN.out]; exact hj
        have hstep : Hid (Mem n F (k + 1) (l.set j (F k).sp)) := ⟨l, hl.out, Or.inr ⟨j, hjl, hx, rfl⟩⟩
        have hs := hrowW.cell hj
        have hfz := hrowW.frozen j
        have HJL := hide hjl
        clear hi hx hl hjl
        go_wp2
        go_roundg (m - (k + 1))
        case measure => omega
        case rel =>
          refine ⟨k + 1, l.set j (F k).sp, by omega, rfl, by go_num, hstep, (hrowW.set j _).congr fun i _ => ?_, hbelW.setCell HG.out _⟩
          rw [getD_set l j i _ HJL.out]
          by_cases e : i = j
          · rw [if_pos e, if_pos e]
          · rw [if_neg e, if_neg e]
    · obtain rfl : k = m := by omega
      have hH : Sort.Holds (Value.int .u32) wr g 0 l.toArray := fun j hj => by
        have hj' : j < n := by simpa [hlen] using hj
        refine ⟨?_, by rw [Nat.zero_add]; exact hrow.frozen j⟩
        rw [Nat.zero_add, hrow.cell hj', getBang]
      have hs := sort17 g 0 n l wr hH hrow.lt (by omega)
      rw [hlen] at hs
      have HROW := hide hrow
      have HBEL := hide hbel
      have HS := hide hs
      clear hrow hbel hs hH hlen
      go_wp2_with fail
      refine HS.out.mono ?_
      rintro e w2 ⟨rfl, hw2⟩
      have HP := hide (members_end HG.out hl.out HROW.out HBEL.out hw2)
      clear hw2
      go_wp2
      go_ret
      exact HP.out
end Go.Proofs.Qxb6604102a
