/-
  COUNTS: the plain half of FnMembersMultisetSorted, and the map that counts.
-/
import Derived.Test.Qxb6604102aMembers
import Derived.Maps.Own
import Derived.Maps.OwnOps
import Derived.Maps.OwnSet
import Derived.Maps.Views
namespace Go.Proofs.Qxb6604102a
open Go.RowKit Go.Maps

theorem und39 : Try.prog.underlying 39 = some (.map 31 3) := by kernel_rfl
theorem law31 : Keyed Try.prog 31 := int_keyed Try.underlying31
theorem zero3 (w : World) : (zeroValue 3).run Try.prog w = .ok (.int .i64 0) w := by kernel_rfl

def upd (c : Int → Int) (x v : Int) : Int → Int := fun y => if y = x then v else c y
/-- Block B is a map of at most n entries whose element at x is c x (0 where there is none). -/
def Cnt (w : World) (B n : Nat) (c : Int → Int) : Prop :=
  ∃ D : DataW Unit, w.ownsMap Try.prog 31 (plainElem Try.prog 3) B n D ∧ ∀ x : Int, D.atKey (.int .u32 x) (.lit (.int .i64 0)) = .lit (.int .i64 (c x))
theorem Cnt.made (w : World) : Cnt (w.alloc (.map #[] 0)) w.heap.size 0 (fun _ => 0) :=
  ⟨.map [], World.ownsMap_made _ _ _ _, fun _ => rfl⟩
theorem Cnt.drewN {w : World} {B n : Nat} {c : Int → Int} (h : Cnt w B n c) (q : Nat) : Cnt (w.drewN q) B n c := h

theorem wp_look (w : World) (B n : Nat) (c : Int → Int) (x v : Int) (hC : Hid (Cnt w B n c)) (hv : Hid (c x = v)) (hx : (Lit.int .u32 x).wf = true) {ops : Array Oper} {rest : List Oper} {o : Oper} {a : Act} {Q : Exit → Act → World → Prop}
    (hg : o.guard = none) (m k : Operand) (hop : o.op = Op.lookup 39 m k false) (hm : a.eval m = .map (some B)) (hk : a.eval k = .int .u32 x)
    (hK : wpList Try.prog ops Q rest (a.put o.dst (.int .i64 v)) w) : wpList Try.prog ops Q (o :: rest) a w := by
  obtain ⟨D, hD, hat⟩ := hC.out
  refine wpList_lookup_own_int w hg m k 39 hop 31 3 .i64 law31 und39 Try.underlying3 (zero3 _) B n D hm hD _ _ hk (keyOf_int_mk Try.underlying31 hx) ?_
  intro c' hc' _
  rw [hat x] at hc'
  injection hc' with e
  injection e with _ e
  rw [← e, hv.out]
  exact hK

theorem wp_store (w : World) (B n : Nat) (c : Int → Int) (x v : Int) (hC : Hid (Cnt w B n c)) (hn : n < 1000000) (hx : (Lit.int .u32 x).wf = true) (hv : (Lit.int .i64 v).wf = true) {ops : Array Oper} {rest : List Oper} {o : Oper} {a : Act} {Q : Exit → Act → World → Prop}
    (hg : o.guard = none) (m k z : Operand) (hop : o.op = Op.mapUpdate 39 m k z) (hm : a.eval m = .map (some B)) (hk : a.eval k = .int .u32 x) (hz : a.eval z = .int .i64 v)
    (hK : ∀ w', Hid (Cnt w' B (n + 1) (upd c x v)) → w.grownBy w' (some B) → wpList Try.prog ops Q rest (a.put o.dst undef) w') : wpList Try.prog ops Q (o :: rest) a w := by
  obtain ⟨D, hD, hat⟩ := hC.out
  refine wpList_mapUpdate_own w hg m k z 39 hop 31 3 law31 und39 _ B n D hm hD (by unfold maxLen; omega) _ _ _ hk hz (keyOf_int_mk Try.underlying31 hx) _ [] (plainElem_int Try.underlying3 hv) ?_
  intro w' hD' hg'
  refine hK w' ⟨_, hD', fun y => ?_⟩ hg'
  unfold upd
  by_cases e : y = x
  · subst e
    rw [if_pos rfl, atKey_put_same (hD.tidy law31).isMap (by trivial)]
  · rw [if_neg e, atKey_put_other (fun h => e (by injection h)), hat y]

/-! ### The plain half -/
/-- The counts after k replacements. -/
def cN (n : Nat) (F : Nat → Rp) : Nat → Int → Int
  | 0 => fun x => if 1 ≤ x ∧ x ≤ n then 1 else 0
  | k + 1 => let c := cN n F k; if 0 < c (F k).rd then let d := upd c (F k).rd (c (F k).rd - 1); upd d (F k).sp (d (F k).sp + 1) else c

theorem count_init (x : Int) : ∀ n : Nat, ((((List.range n).map fun i => ((i : Nat) : Int) + 1).count x : Nat) : Int) = if 1 ≤ x ∧ x ≤ n then 1 else 0
  | 0 => by
    have : ¬ (1 ≤ x ∧ x ≤ ((0 : Nat) : Int)) := by omega
    rw [if_neg this]; rfl
  | n + 1 => by
    rw [List.range_succ, List.map_append, List.count_append, Int.natCast_add, count_init x n]
    simp only [List.map_cons, List.map_nil, List.count_singleton, beq_iff_eq]
    (repeat' split) <;> omega

theorem Mem.count {n : Nat} {F : Nat → Rp} : ∀ {k : Nat} {l : List Int}, Mem n F k l → ∀ x, ((l.count x : Nat) : Int) = cN n F k x
  | 0, l, h, x => by
    have h : l = _ := h
    subst h
    exact count_init x n
  | k + 1, l, ⟨l0, h0, hs⟩, x => by
    have ih := h0.count
    have hpos : 0 < cN n F k (F k).rd ↔ (F k).rd ∈ l0 := by
      rw [← ih, ← List.count_pos_iff (a := (F k).rd) (l := l0)]
      omega
    rcases hs with ⟨hn, rfl⟩ | ⟨j, hj, hx, rfl⟩
    · show _ = (if 0 < cN n F k (F k).rd then _ else cN n F k) x
      rw [if_neg (fun h => hn (hpos.1 h))]
      exact ih x
    · have hget : l0[j] = (F k).rd := by simpa [List.getD, hj] using hx
      have hmem : (F k).rd ∈ l0 := hget ▸ List.getElem_mem hj
      show _ = (if 0 < cN n F k (F k).rd then _ else cN n F k) x
      rw [if_pos (hpos.2 hmem), List.count_set hj, hget]
      have hle : (F k).rd = x → 0 < l0.count x := fun e => List.count_pos_iff.2 (e ▸ hmem)
      have h1 := ih (F k).rd
      have h2 := ih (F k).sp
      have h3 := ih x
      have k1 : (F k).rd = x → l0.count (F k).rd = l0.count x := fun e => by rw [e]
      have k2 : (F k).sp = x → l0.count (F k).sp = l0.count x := fun e => by rw [e]
      have k3 : (F k).sp = (F k).rd → l0.count (F k).sp = l0.count (F k).rd := fun e => by rw [e]
      simp only [upd, beq_iff_eq]
      (repeat' split) <;> omega

theorem Mem.within {n m : Nat} {F : Nat → Rp} (hn : n ≤ 65536) (hF : ∀ i, i < m → 0 ≤ (F i).sp ∧ (F i).sp ≤ 4294967295) : ∀ {k : Nat} {l : List Int}, k ≤ m → Mem n F k l → ∀ x ∈ l, 0 ≤ x ∧ x ≤ 4294967295
  | 0, l, _, h => by
    have h : l = _ := h
    subst h
    intro x hx
    obtain ⟨i, hi, rfl⟩ := List.mem_map.1 hx
    have := List.mem_range.1 hi
    omega
  | k + 1, l, hk, ⟨l0, h0, hs⟩ => by
    intro x hx
    rcases hs with ⟨_, rfl⟩ | ⟨j, _, _, rfl⟩
    · exact h0.within hn hF (by omega) x hx
    · rcases List.mem_or_eq_of_mem_set hx with h | h
      · exact h0.within hn hF (by omega) x h
      · subst h; exact hF k (by omega)

theorem count_run (zs : List Int) (y : Int) (p j : Nat) (hpj : p ≤ j) (hj : j ≤ zs.length) (h1 : ∀ q, q < p → zs.getD q 0 ≠ y) (h2 : ∀ q, p ≤ q → q < j → zs.getD q 0 = y) (h3 : ∀ q, j ≤ q → q < zs.length → zs.getD q 0 ≠ y) : zs.count y = j - p := by
  have get : ∀ q (h : q < zs.length), zs.getD q 0 = zs[q] := fun q h => by simp [List.getD, h]
  have e : zs = zs.take p ++ ((zs.drop p).take (j - p) ++ (zs.drop p).drop (j - p)) := by rw [List.take_append_drop, List.take_append_drop]
  have c1 : (zs.take p).count y = 0 := List.count_eq_zero.2 fun hm => by
    obtain ⟨i, hi, hx⟩ := List.getElem_of_mem hm
    rw [List.getElem_take] at hx
    have hi' : i < p := by simp at hi; omega
    exact h1 i hi' (by rw [get i (by omega)]; exact hx)
  have c3 : ((zs.drop p).drop (j - p)).count y = 0 := List.count_eq_zero.2 fun hm => by
    obtain ⟨i, hi, hx⟩ := List.getElem_of_mem hm
    rw [List.getElem_drop, List.getElem_drop] at hx
    have hi' : p + (j - p + i) < zs.length := by simp at hi; omega
    exact h3 (p + (j - p + i)) (by omega) hi' (by rw [get _ hi']; exact hx)
  have c2 : ((zs.drop p).take (j - p)).count y = j - p := by
    have hl : ((zs.drop p).take (j - p)).length = j - p := by simp; omega
    refine Eq.trans ((List.count_eq_length (a := y)).2 fun b hb => ?_) hl
    obtain ⟨i, hi, hx⟩ := List.getElem_of_mem hb
    rw [List.getElem_take, List.getElem_drop] at hx
    rw [hl] at hi
    rw [← hx, ← get (p + i) (by omega), h2 (p + i) (by omega) (by omega)]
  rw [e, List.count_append, List.count_append, c1, c2, c3]
  omega

theorem sorted_le (l : List Int) (zs : List Int) (hz : zs = l.mergeSort fun x y => decide (x ≤ y)) : ∀ i j, i ≤ j → j < zs.length → zs.getD i 0 ≤ zs.getD j 0 := by
  have hp : zs.Pairwise (fun x y => decide (x ≤ y) = true) := by
    rw [hz]
    exact List.pairwise_mergeSort (fun a b c h1 h2 => by simp at *; omega) (fun a b => by simp; omega) l
  rw [List.pairwise_iff_getElem] at hp
  intro i j hij hj
  rcases Nat.lt_or_eq_of_le hij with h | h
  · have := hp i j (by omega) hj h
    simpa [List.getD, hj, show i < zs.length by omega] using this
  · subst h; exact Int.le_refl _

end Go.Proofs.Qxb6604102a
