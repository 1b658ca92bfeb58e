/-
  mergeMarks (34), ZZMergeMarks (27).
-/
import Derived.Test.Qxb6604243aRowM
import Derived.Test.Qxb6604243aConvM
namespace Go.Proofs.Qxb6604243a
open Go.RowKit

/-- What mergeMarks leaves. -/
def MergePost (m n : Nat) (F F' : Nat → Mk) (w : World) (e : Ending) (w' : World) : Prop :=
  ∃ r G ad g off cap, e = .returned (.slice ad r cap) ∧ MksAt w' ad r g off G ∧ r ≤ m + n ∧ listOf r G = mergeF (m + n) (listOf m F) (listOf n F') ∧ Below w.heap.size w w'

/-- The loop's relation on memory. -/
structure Inv (w wr : World) (m n : Nat) (F F' : Nat → Mk) (b off b' off' : Nat) (p i j l l' : Nat) (G : Nat → Mk) : Prop where
  li : i + l = m
  lj : j + l' = n
  lp : p ≤ i + j
  row : Row wr w.heap.size (m + n) p G
  sz : ∀ q, q < p → (G q).id.size ≤ 9223372036854775807
  eq : listOf p G ++ mergeF (l + l') (listOf l (fun k => F (i + k))) (listOf l' (fun k => F' (j + k))) = mergeF (m + n) (listOf m F) (listOf n F')
  bel : Below w.heap.size w wr

theorem Inv.drewN {w wr : World} {m n : Nat} {F F' : Nat → Mk} {b off b' off' p i j l l' : Nat} {G : Nat → Mk} (h : Inv w wr m n F F' b off b' off' p i j l l' G) (q : Nat) : Inv w (wr.drewN q) m n F F' b off b' off' p i j l l' G :=
  ⟨h.li, h.lj, h.lp, h.row.drewN q, h.sz, h.eq, below_drewN h.bel q⟩
section
variable {w wq W' : World} {m n : Nat} {F F' : Nat → Mk} {b off b' off' p i j t t' : Nat} {G : Nat → Mk}
theorem cat_size {x : Mk} (h : ∀ q, q < p → (G q).id.size ≤ 9223372036854775807) (hx : x.id.size ≤ 9223372036854775807) : ∀ q, q < p + 1 → (cat p G (fun _ => x) q).id.size ≤ 9223372036854775807 := by
  intro q hq
  unfold cat
  split
  · exact h q (by assumption)
  · exact hx
theorem Inv.lt (h : Inv w wq m n F F' b off b' off' p i j (t + 1) (t' + 1) G) (hc : cmpM (F i).id (F' j).id < 0) (hx : (F i).id.size ≤ 9223372036854775807) (hrow : Row W' w.heap.size (m + n) (p + 1) (cat p G fun _ => F i)) (hb : Below w.heap.size w W') :
    Inv w W' m n F F' b off b' off' (p + 1) (i + 1) j t (t' + 1) (cat p G fun _ => F i) :=
  ⟨by have := h.li; omega, h.lj, by have := h.lp; omega, hrow, cat_size h.sz hx, by rw [listOf_cat_one, merge_lt hc]; exact h.eq, hb⟩
theorem Inv.gt (h : Inv w wq m n F F' b off b' off' p i j (t + 1) (t' + 1) G) (hc : 0 < cmpM (F i).id (F' j).id) (hx : (F' j).id.size ≤ 9223372036854775807) (hrow : Row W' w.heap.size (m + n) (p + 1) (cat p G fun _ => F' j)) (hb : Below w.heap.size w W') :
    Inv w W' m n F F' b off b' off' (p + 1) i (j + 1) (t + 1) t' (cat p G fun _ => F' j) :=
  ⟨h.li, by have := h.lj; omega, by have := h.lp; omega, hrow, cat_size h.sz hx, by rw [listOf_cat_one, merge_gt hc]; exact h.eq, hb⟩
theorem Inv.same (h : Inv w wq m n F F' b off b' off' p i j (t + 1) (t' + 1) G) (hc : cmpM (F i).id (F' j).id = 0) : Inv w wq m n F F' b off b' off' p (i + 1) j t (t' + 1) G :=
  ⟨by have := h.li; omega, h.lj, by have := h.lp; omega, h.row, h.sz, by rw [merge_eq hc]; exact h.eq, h.bel⟩
end
/-- Room for one more; where it lies. -/
theorem news_at (w : World) (x : Mk) : ∀ j u, (run (fun _ => x) 1)[j]? = some u → ((w.alloc (.cells #[.string x.id, .int .u64 x.seq, .int .u64 x.index, .int .u64 x.term, .int .u64 x.time] 89)).drew).cell? ((⟨w.heap.size, 0, none⟩ : Addr).add j) = some u := by
  intro j u hj
  obtain ⟨h1, rfl⟩ := run_get _ 1 j u hj
  rw [WideShapes.add_plain, Nat.zero_add]
  have h5 : j = 0 ∨ j = 1 ∨ j = 2 ∨ j = 3 ∨ j = 4 := by omega
  rcases h5 with rfl | rfl | rfl | rfl | rfl <;> go_simp <;> rfl

theorem src_at {wr : World} {ad : Option Addr} {m b off i l : Nat} {F : Nat → Mk} {x0 : Addr} (h : MksAt wr ad m b off F) (hl : i + l = m) (hx : 0 < l → x0 = ⟨b, off + i * 5, none⟩) : ∀ j u, (run (fun k => F (i + k)) l)[j]? = some u → wr.cell? (x0.add j) = some u := by
  intro j u hj
  have hj' := run_get _ _ _ _ hj
  obtain rfl := hx (by omega)
  have hM : MksAt wr (some ⟨b, off + i * 5, none⟩) l b (off + i * 5) (fun k => F (i + k)) := ⟨fun _ => rfl, (fun hh => by cases hh), fun q hq => by
    have := h.2.2.1 (i + q) (by omega)
    rw [show off + (i + q) * 5 = off + i * 5 + q * 5 by omega] at this
    exact this, fun q hq => h.2.2.2 (i + q) (by omega)⟩
  exact hM.run j u hj
theorem src_later {w wr : World} {ad : Option Addr} {m b off i l g o : Nat} {F : Nat → Mk} {x0 : Addr} {vs : List Value} (h : MksAt wr ad m b off F) (hl : i + l = m) (hx : 0 < l → x0 = ⟨b, off + i * 5, none⟩) (h0 : MksAt w ad m b off F) (hg : w.heap.size ≤ g) :
    ∀ j u, (run (fun k => F (i + k)) l)[j]? = some u → (wr.setCells g o vs).cell? (x0.add j) = some u := by
  intro j u hj
  have hj' := run_get _ _ _ _ hj
  have hlt : b < w.heap.size := World.block_lt_of_cell? _ _ (h0.2.2.1 i (by omega)).1
  have hc := src_at h hl hx j u hj
  obtain rfl := hx (by omega)
  rw [WideShapes.add_plain] at hc ⊢
  rw [World.cell?_setCells_out]
  · exact hc
  · intro hb _
    simp only at hb
    omega

theorem merge_done {w wr W' : World} {ad ad' : Option Addr} {m n : Nat} {F F' : Nat → Mk} {b off b' off' p i j l l' : Nat} {G : Nat → Mk} (h : Inv w wr m n F F' b off b' off' p i j l l' G) (hM : MksAt w ad m b off F) (hN : MksAt w ad' n b' off' F')
    (hrow : Row W' w.heap.size (m + n) (p + l + l') (cat (p + l) (cat p G fun k => F (i + k)) fun k => F' (j + k))) (h0 : l = 0 ∨ l' = 0) (hb : Below w.heap.size w W') :
    MergePost m n F F' w (.returned (.slice (some ⟨w.heap.size, 0, none⟩) (p + l + l') (m + n))) W' := by
  have hli := h.li
  have hlj := h.lj
  have hlp := h.lp
  refine ⟨p + l + l', _, _, w.heap.size, 0, m + n, rfl, hrow.marks (by omega) (fun q hq => ?_), by omega, ?_, hb⟩
  · unfold cat
    split
    · split
      · exact h.sz q (by assumption)
      · exact hM.2.2.2 _ (by omega)
    · exact hN.2.2.2 _ (by omega)
  · rw [listOf_cat, listOf_cat, ← h.eq]
    rcases h0 with rfl | rfl
    · have e : listOf 0 (fun k => F (i + k)) = [] := rfl
      rw [e, mergeF_nil_left, List.append_nil]
    · have e : listOf 0 (fun k => F' (j + k)) = [] := rfl
      rw [e, mergeF_nil_right, List.append_nil]

set_option maxHeartbeats 8000000 in
theorem merge34 (a0 a1 : Addr) (m n mc nc b off b' off' : Nat) (F F' : Nat → Mk) (w : World) (hm : MksAt w (some a0) m b off F) (hn : MksAt w (some a1) n b' off' F') (c1 : m ≤ 4096) (c2 : n ≤ 4096) (hmc : m ≤ mc) (hnc : n ≤ nc) (h1 : 0 < m) (h2 : 0 < n) :
    Calls Try.prog 34 #[.slice (some a0) m mc, .slice (some a1) n nc] w (MergePost m n F F' w) := by
  have HM := hide hm
  have HN := hide hn
  clear hm hn
  have t1 : ((n : Int) == 0) = false := beq_eq_false_iff_ne.2 (by omega)
  have t2 : ((m : Int) == 0) = false := beq_eq_false_iff_ne.2 (by omega)
  have hmk := run_make_cap (P := Try.prog) 70 89 _ _ 5 48 Try.underlying70 Try.info89 rfl .i64 .i64 (m + n) ((m : Int) + (n : Int)) (by omega) (by omega) (by omega)
  have HB0 : Hid (Below w.heap.size w (w.alloc (.cells (madeCells #[.string ByteArray.empty, .int .u64 0, .int .u64 0, .int .u64 0, .int .u64 0] ((m + n) * 5)) 89))) := (Below.refl _ _).alloc (Nat.le_refl _) _
  have HR0 := hide (Row.made w (m + n) F)
  go_enter Try.func34, Try.ntmps34
  go_wp2
  clear hmk t1 t2
  go_loopg [0, 1, 5] (m + n) (fun gg s0 s1 s5 wr => ∃ (p i j l l' co cn : Nat) (G : Nat → Mk) (x0 x1 : Addr), gg = l + l' ∧ s0 = .slice (some x0) l co ∧ s1 = .slice (some x1) l' cn ∧ s5 = .slice (some ⟨w.heap.size, 0, none⟩) p (m + n) ∧
    l ≤ co ∧ l' ≤ cn ∧ (0 < l → x0 = ⟨b, off + i * 5, none⟩) ∧ (0 < l' → x1 = ⟨b', off' + j * 5, none⟩) ∧ Inv w wr m n F F' b off b' off' p i j l l' G)
  case atStart =>
    refine ⟨0, 0, 0, m, n, mc, nc, F, a0, a1, rfl, rfl, rfl, rfl, hmc, hnc, fun h => ?_, fun h => ?_, ⟨by omega, by omega, by omega, HR0.out, fun q hq => by omega, ?_, HB0.out⟩⟩
    · have := HM.out.1 h; simpa using this
    · have := HN.out.1 h; simpa using this
    · simp [listOf]
  case round =>
    clear HB0 HR0
    obtain ⟨p, i, j, l, l', co, cn, G, x0, x1, rfl, rfl, rfl, rfl, hlo, hln, hx0, hx1, hI⟩ := hrel
    have HX0 := hide hx0
    have HX1 := hide hx1
    have HI := hide hI
    clear hx0 hx1 hI
    by_cases hl : 0 < l
    · by_cases hl' : 0 < l'
      · obtain ⟨t, rfl⟩ : ∃ t, l = t + 1 := ⟨l - 1, by omega⟩
        obtain ⟨t', rfl⟩ : ∃ t', l' = t' + 1 := ⟨l' - 1, by omega⟩
        have hlz : (0 : Int) < (t : Int) + 1 := by omega
        have hlz' : (0 : Int) < (t' : Int) + 1 := by omega
        have hly : (1 : Int) ≤ (t : Int) + 1 := by omega
        have hly' : (1 : Int) ≤ (t' : Int) + 1 := by omega
        obtain rfl := HX0.out hl
        obtain rfl := HX1.out hl'
        have hli := HI.out.li
        have hlj := HI.out.lj
        obtain ⟨u0, u1, u2, u3, u4⟩ := (HM.out.below HI.out.bel).2.2.1 i (by omega)
        obtain ⟨v0, v1, v2, v3, v4⟩ := (HN.out.below HI.out.bel).2.2.1 j (by omega)
        obtain ⟨c, hc⟩ : ∃ c, cmpM (F i).id (F' j).id = c := ⟨_, rfl⟩
        have hcm : ∀ w, Calls Try.prog 35 #[.string (F i).id, .string (F' j).id] w fun e w' => e = .returned (.int .i64 c) ∧ w' = w := fun w => by
          rw [← hc]; exact (compare35 _ _ w).mono fun e w' h => ⟨h.1, h.2.symm⟩
        have HCM := hide hcm
        have HC := hide hc
        clear hc hcm hli hlj
        by_cases k1 : c < 0
        · go_wp2
          go_quiet ((go_at_call 35; exact Calls.quiet_of_same (HCM.out _)))
          go_wp2
          have HI2 := hide (HI.out.drewN nq)
          have u0' : (wr.drewN nq).cell? ⟨b, off + i * 5, none⟩ = some (.string (F i).id) := u0
          have u1' : (wr.drewN nq).cell? ⟨b, off + i * 5 + 1, none⟩ = some (.int .u64 (F i).seq) := u1
          have u2' : (wr.drewN nq).cell? ⟨b, off + i * 5 + 2, none⟩ = some (.int .u64 (F i).index) := u2
          have u3' : (wr.drewN nq).cell? ⟨b, off + i * 5 + 3, none⟩ = some (.int .u64 (F i).term) := u3
          have u4' : (wr.drewN nq).cell? ⟨b, off + i * 5 + 4, none⟩ = some (.int .u64 (F i).time) := u4
          clear u0 u1 u2 u3 u4 v0 v1 v2 v3 v4 HCM HI
          generalize wr.drewN nq = wq at HI2 u0' u1' u2' u3' u4' ⊢
          have HSP : Hid (∀ jj, jj < (run (fun _ => F i) 1).length → ((wq.alloc (.cells #[.string (F i).id, .int .u64 (F i).seq, .int .u64 (F i).index, .int .u64 (F i).term, .int .u64 (F i).time] 89)).drew.cell? ⟨w.heap.size, 0 + p * 5 + jj, none⟩).isSome = true ∧ (wq.alloc (.cells #[.string (F i).id, .int .u64 (F i).seq, .int .u64 (F i).index, .int .u64 (F i).term, .int .u64 (F i).time] 89)).drew.frozen? ⟨w.heap.size, 0 + p * 5 + jj, none⟩ = false) :=
            (HI2.out.row.alloc _).drew.spare (by have := HI2.out.lp; have := HI2.out.li; have := HI2.out.lj; omega)
          have HNW := hide (news_at wq (F i))
          have hpr : p + 1 ≤ m + n := by have := HI2.out.lp; have := HI2.out.li; have := HI2.out.lj; omega
          have hszx : (F i).id.size ≤ 9223372036854775807 := HM.out.2.2.2 i (by have := HI2.out.li; omega)
          have HSX := hide hszx
          clear hszx
          obtain ⟨i0, hi, hz0, hz1, hz2⟩ := info_parts Try.info89
          have HROW := hide ((HI2.out.row.alloc (.cells #[.string (F i).id, .int .u64 (F i).seq, .int .u64 (F i).index, .int .u64 (F i).term, .int .u64 (F i).time] 89)).drew.append (k := 1) (H := fun _ => F i))
          rw [Nat.zero_add] at HROW
          by_cases hco : co = 1
          · obtain rfl := hco
            obtain rfl : t = 0 := by omega
            go_region_law (refine step_append_room rfl (.tmp 51) (.tmp 55) 70 rfl 89 i0 5 Try.underlying70 hi hz1 w.heap.size 0 p (m + n) (by simp [Act.eval]) ⟨wq.heap.size, 0, none⟩ 1 1 (run (fun _ => F i) 1) (by simp [Act.eval]) rfl HNW.out (run_one _ _) hpr HSP.out ?_)
            go_wp2
            go_roundg (0 + (t' + 1))
            case measure => omega
            case rel =>
              exact ⟨p + 1, i + 1, j, 0, t' + 1, 0, cn, _, _, _, rfl, rfl, rfl, rfl, Nat.le_refl _, hln, fun hh => absurd hh (Nat.lt_irrefl _), fun _ => rfl,
                HI2.out.lt (by rw [HC.out]; exact k1) HSX.out HROW.out (below_setCells (Nat.le_refl _) _ _ _ (HI2.out.bel.alloc HI2.out.bel.size _).drew)⟩
          · go_region_law (refine step_append_room rfl (.tmp 51) (.tmp 55) 70 rfl 89 i0 5 Try.underlying70 hi hz1 w.heap.size 0 p (m + n) (by simp [Act.eval]) ⟨wq.heap.size, 0, none⟩ 1 1 (run (fun _ => F i) 1) (by simp [Act.eval]) rfl HNW.out (run_one _ _) hpr HSP.out ?_)
            go_wp2
            go_roundg (t + (t' + 1))
            case measure => omega
            case rel =>
              exact ⟨p + 1, i + 1, j, t, t' + 1, co - 1, cn, _, _, _, rfl, rfl, rfl, rfl, by omega, hln, fun _ => by rw [show off + (i + 1) * 5 = off + i * 5 + 5 by omega], fun _ => rfl,
                HI2.out.lt (by rw [HC.out]; exact k1) HSX.out HROW.out (below_setCells (Nat.le_refl _) _ _ _ (HI2.out.bel.alloc HI2.out.bel.size _).drew)⟩
        · by_cases k2 : c = 0
          · obtain rfl := k2
            go_wp2
            go_quiet ((go_at_call 35; exact Calls.quiet_of_same (HCM.out _)))
            by_cases hco : co = 1
            · obtain rfl := hco
              obtain rfl : t = 0 := by omega
              go_wp2
              go_roundg (0 + (t' + 1))
              case measure => omega
              case rel =>
                exact ⟨p, i + 1, j, 0, t' + 1, 0, cn, _, _, _, rfl, rfl, rfl, rfl, Nat.le_refl _, hln, fun hh => absurd hh (Nat.lt_irrefl _), fun _ => rfl, (HI.out.drewN nq).same HC.out⟩
            · go_wp2
              go_roundg (t + (t' + 1))
              case measure => omega
              case rel =>
                exact ⟨p, i + 1, j, t, t' + 1, co - 1, cn, _, _, _, rfl, rfl, rfl, rfl, by omega, hln, fun _ => by rw [show off + (i + 1) * 5 = off + i * 5 + 5 by omega], fun _ => rfl, (HI.out.drewN nq).same HC.out⟩
          · have k2' : (c == 0) = false := beq_eq_false_iff_ne.2 k2
            have k3 : 0 < c := by omega
            clear k2
            go_wp2
            go_quiet ((go_at_call 35; exact Calls.quiet_of_same (HCM.out _)))
            go_wp2
            have HI2 := hide (HI.out.drewN nq)
            have u0' : (wr.drewN nq).cell? ⟨b', off' + j * 5, none⟩ = some (.string (F' j).id) := v0
            have u1' : (wr.drewN nq).cell? ⟨b', off' + j * 5 + 1, none⟩ = some (.int .u64 (F' j).seq) := v1
            have u2' : (wr.drewN nq).cell? ⟨b', off' + j * 5 + 2, none⟩ = some (.int .u64 (F' j).index) := v2
            have u3' : (wr.drewN nq).cell? ⟨b', off' + j * 5 + 3, none⟩ = some (.int .u64 (F' j).term) := v3
            have u4' : (wr.drewN nq).cell? ⟨b', off' + j * 5 + 4, none⟩ = some (.int .u64 (F' j).time) := v4
            clear u0 u1 u2 u3 u4 v0 v1 v2 v3 v4 HCM HI
            generalize wr.drewN nq = wq at HI2 u0' u1' u2' u3' u4' ⊢
            have HSP : Hid (∀ jj, jj < (run (fun _ => F' j) 1).length → ((wq.alloc (.cells #[.string (F' j).id, .int .u64 (F' j).seq, .int .u64 (F' j).index, .int .u64 (F' j).term, .int .u64 (F' j).time] 89)).drew.cell? ⟨w.heap.size, 0 + p * 5 + jj, none⟩).isSome = true ∧ (wq.alloc (.cells #[.string (F' j).id, .int .u64 (F' j).seq, .int .u64 (F' j).index, .int .u64 (F' j).term, .int .u64 (F' j).time] 89)).drew.frozen? ⟨w.heap.size, 0 + p * 5 + jj, none⟩ = false) :=
              (HI2.out.row.alloc _).drew.spare (by have := HI2.out.lp; have := HI2.out.li; have := HI2.out.lj; omega)
            have HNW := hide (news_at wq (F' j))
            have hpr : p + 1 ≤ m + n := by have := HI2.out.lp; have := HI2.out.li; have := HI2.out.lj; omega
            have hszx : (F' j).id.size ≤ 9223372036854775807 := HN.out.2.2.2 j (by have := HI2.out.lj; omega)
            have HSX := hide hszx
            clear hszx
            obtain ⟨i0, hi, hz0, hz1, hz2⟩ := info_parts Try.info89
            have HROW := hide ((HI2.out.row.alloc (.cells #[.string (F' j).id, .int .u64 (F' j).seq, .int .u64 (F' j).index, .int .u64 (F' j).term, .int .u64 (F' j).time] 89)).drew.append (k := 1) (H := fun _ => F' j))
            rw [Nat.zero_add] at HROW
            by_cases hco : cn = 1
            · obtain rfl := hco
              obtain rfl : t' = 0 := by omega
              go_region_law (refine step_append_room rfl (.tmp 40) (.tmp 44) 70 rfl 89 i0 5 Try.underlying70 hi hz1 w.heap.size 0 p (m + n) (by simp [Act.eval]) ⟨wq.heap.size, 0, none⟩ 1 1 (run (fun _ => F' j) 1) (by simp [Act.eval]) rfl HNW.out (run_one _ _) hpr HSP.out ?_)
              go_wp2
              go_roundg (t + 1 + 0)
              case measure => omega
              case rel =>
                exact ⟨p + 1, i, j + 1, t + 1, 0, co, 0, _, _, _, rfl, rfl, rfl, rfl, hlo, Nat.le_refl _, fun _ => rfl, fun hh => absurd hh (Nat.lt_irrefl _),
                  HI2.out.gt (by rw [HC.out]; exact k3) HSX.out HROW.out (below_setCells (Nat.le_refl _) _ _ _ (HI2.out.bel.alloc HI2.out.bel.size _).drew)⟩
            · go_region_law (refine step_append_room rfl (.tmp 40) (.tmp 44) 70 rfl 89 i0 5 Try.underlying70 hi hz1 w.heap.size 0 p (m + n) (by simp [Act.eval]) ⟨wq.heap.size, 0, none⟩ 1 1 (run (fun _ => F' j) 1) (by simp [Act.eval]) rfl HNW.out (run_one _ _) hpr HSP.out ?_)
              go_wp2
              go_roundg (t + 1 + t')
              case measure => omega
              case rel =>
                exact ⟨p + 1, i, j + 1, t + 1, t', co, cn - 1, _, _, _, rfl, rfl, rfl, rfl, hlo, by omega, fun _ => rfl, fun _ => by rw [show off' + (j + 1) * 5 = off' + j * 5 + 5 by omega],
                  HI2.out.gt (by rw [HC.out]; exact k3) HSX.out HROW.out (below_setCells (Nat.le_refl _) _ _ _ (HI2.out.bel.alloc HI2.out.bel.size _).drew)⟩
      · have hz' : ¬ (0 : Int) < (l' : Int) := by omega
        have hz : (0 : Int) < (l : Int) := by omega
        have hI := HI.out
        have hli := hI.li
        have hlj := hI.lj
        have hlp := hI.lp
        have HS1 : Hid (∀ j u, (run (fun k => F (i + k)) l)[j]? = some u → wr.cell? (x0.add j) = some u) := src_at (HM.out.below hI.bel) hli HX0.out
        have HS2 : Hid (∀ jj u, (run (fun k => F' (j + k)) l')[jj]? = some u → (wr.setCells w.heap.size (p * 5) (run (fun k => F (i + k)) l)).cell? (x1.add jj) = some u) := src_later (HN.out.below hI.bel) hlj HX1.out HN.out (Nat.le_refl _)
        have HP1 := hide (hI.row.spare (H := fun k => F (i + k)) (k := l) (by omega))
        have HROW1 := hide (hI.row.append (k := l) (H := fun k => F (i + k)))
        rw [Nat.zero_add] at HROW1
        have HP2 := hide (HROW1.out.spare (H := fun k => F' (j + k)) (k := l') (by omega))
        have HROW2 := hide (HROW1.out.append (k := l') (H := fun k => F' (j + k)))
        rw [Nat.zero_add] at HROW2
        have hr1 : p + l ≤ m + n := by omega
        have hr2 : p + l + l' ≤ m + n := by omega
        obtain ⟨i0, hi, hz0, hz1, hz2⟩ := info_parts Try.info89
        clear hI hli hlj hlp
        go_wp2_with (first | (at_builtin; refine wpList_append_cells _ rfl (.tmp 64) (.tmp 65) 70 rfl 89 i0 5 Try.underlying70 hi hz1 w.heap.size 0 p (m + n) rfl x0 l co (run (fun k => F (i + k)) l) rfl (run_length _ _) HS1.out (run_one _ _) hr1 HP1.out ?_) | (at_builtin; refine wpList_append_cells _ rfl (.tmp 66) (.tmp 67) 70 rfl 89 i0 5 Try.underlying70 hi hz1 w.heap.size 0 (p + l) (m + n) rfl x1 l' cn (run (fun k => F' (j + k)) l') rfl (run_length _ _) HS2.out (run_one _ _) hr2 HP2.out ?_))
        go_ret
        exact merge_done HI.out HM.out HN.out HROW2.out (by omega) (below_setCells (Nat.le_refl _) _ _ _ (below_setCells (Nat.le_refl _) _ _ _ HI.out.bel))
    · have hz : ¬ (0 : Int) < (l : Int) := by omega
      · have hI := HI.out
        have hli := hI.li
        have hlj := hI.lj
        have hlp := hI.lp
        have HS1 : Hid (∀ j u, (run (fun k => F (i + k)) l)[j]? = some u → wr.cell? (x0.add j) = some u) := src_at (HM.out.below hI.bel) hli HX0.out
        have HS2 : Hid (∀ jj u, (run (fun k => F' (j + k)) l')[jj]? = some u → (wr.setCells w.heap.size (p * 5) (run (fun k => F (i + k)) l)).cell? (x1.add jj) = some u) := src_later (HN.out.below hI.bel) hlj HX1.out HN.out (Nat.le_refl _)
        have HP1 := hide (hI.row.spare (H := fun k => F (i + k)) (k := l) (by omega))
        have HROW1 := hide (hI.row.append (k := l) (H := fun k => F (i + k)))
        rw [Nat.zero_add] at HROW1
        have HP2 := hide (HROW1.out.spare (H := fun k => F' (j + k)) (k := l') (by omega))
        have HROW2 := hide (HROW1.out.append (k := l') (H := fun k => F' (j + k)))
        rw [Nat.zero_add] at HROW2
        have hr1 : p + l ≤ m + n := by omega
        have hr2 : p + l + l' ≤ m + n := by omega
        obtain ⟨i0, hi, hz0, hz1, hz2⟩ := info_parts Try.info89
        clear hI hli hlj hlp
        go_wp2_with (first | (at_builtin; refine wpList_append_cells _ rfl (.tmp 64) (.tmp 65) 70 rfl 89 i0 5 Try.underlying70 hi hz1 w.heap.size 0 p (m + n) rfl x0 l co (run (fun k => F (i + k)) l) rfl (run_length _ _) HS1.out (run_one _ _) hr1 HP1.out ?_) | (at_builtin; refine wpList_append_cells _ rfl (.tmp 66) (.tmp 67) 70 rfl 89 i0 5 Try.underlying70 hi hz1 w.heap.size 0 (p + l) (m + n) rfl x1 l' cn (run (fun k => F' (j + k)) l') rfl (run_length _ _) HS2.out (run_one _ _) hr2 HP2.out ?_))
        go_ret
        exact merge_done HI.out HM.out HN.out HROW2.out (by omega) (below_setCells (Nat.le_refl _) _ _ _ (below_setCells (Nat.le_refl _) _ _ _ HI.out.bel))

theorem merge34_none (ad nd : Option Addr) (m mc nc b off : Nat) (F F' : Nat → Mk) (w : World) (hm : MksAt w ad m b off F) :
    Calls Try.prog 34 #[.slice ad m mc, .slice nd 0 nc] w (MergePost m 0 F F' w) := by
  have HM := hide hm
  clear hm
  go_enter Try.func34, Try.ntmps34
  go_wp2
  go_ret
  exact ⟨m, F, ad, b, off, mc, rfl, HM.out, Nat.le_refl _, by rw [show listOf 0 F' = [] from rfl, mergeF_nil_right], Below.refl _ _⟩
theorem merge34_older_none (ad nd : Option Addr) (n mc nc b off : Nat) (F F' : Nat → Mk) (w : World) (hn : MksAt w nd n b off F') (h : 0 < n) :
    Calls Try.prog 34 #[.slice ad 0 mc, .slice nd n nc] w (MergePost 0 n F F' w) := by
  have t1 : ((n : Int) == 0) = false := beq_eq_false_iff_ne.2 (by omega)
  have HN := hide hn
  clear hn
  go_enter Try.func34, Try.ntmps34
  go_wp2
  go_ret
  exact ⟨n, F', nd, b, off, nc, rfl, HN.out, by omega, by rw [show listOf 0 F = [] from rfl, mergeF_nil_left], Below.refl _ _⟩
theorem merge34_all (ad nd : Option Addr) (m n mc nc b off b' off' : Nat) (F F' : Nat → Mk) (w : World) (hm : MksAt w ad m b off F) (hn : MksAt w nd n b' off' F') (c1 : m ≤ 4096) (c2 : n ≤ 4096) (hmc : m ≤ mc) (hnc : n ≤ nc) :
    Calls Try.prog 34 #[.slice ad m mc, .slice nd n nc] w (MergePost m n F F' w) := by
  by_cases h2 : n = 0
  · subst h2
    exact merge34_none ad nd m mc nc b off F F' w hm
  by_cases h1 : m = 0
  · subst h1
    exact merge34_older_none ad nd n mc nc b' off' F F' w hn (by omega)
  obtain rfl := hm.1 (by omega)
  obtain rfl := hn.1 (by omega)
  exact merge34 _ _ m n mc nc b off b' off' F F' w hm hn c1 c2 hmc hnc (by omega) (by omega)
theorem zzmerge27 (ad nd : Option Addr) (m n mc nc b off b' off' : Nat) (F F' : Nat → Mk) (w : World) (hm : MksAt w ad m b off F) (hn : MksAt w nd n b' off' F') (c1 : m ≤ 4096) (c2 : n ≤ 4096) (hmc : m ≤ mc) (hnc : n ≤ nc) :
    Calls Try.prog 27 #[.slice ad m mc, .slice nd n nc] w (MergePost m n F F' w) := by
  have HM := hide hm
  have HN := hide hn
  clear hm hn
  go_enter Try.func27, Try.ntmps27
  go_wp2_with fail
  refine (merge34_all ad nd m n mc nc b off b' off' F F' w HM.out HN.out c1 c2 hmc hnc).mono ?_
  rintro e w1 ⟨r, G, ad1, g, o, cap, rfl, hG, hr, hl, hb⟩
  have HG := hide hG
  have HL := hide hl
  clear hG hl
  go_wp2
  go_ret
  exact ⟨r, G, ad1, g, o, cap, rfl, HG.out, hr, HL.out, hb⟩

end Go.Proofs.Qxb6604243a
