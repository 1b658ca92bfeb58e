/-
  MERGING TWO LISTS OF MARKS: the plain function, and what it is good for.
-/
import Derived.Test.Qxb6604243aStr
namespace Go.Proofs.Qxb6604243a

/-- The merge, with fuel: at least the two lengths' sum. -/
def mergeF : Nat → List Mk → List Mk → List Mk
  | 0, o, n => o ++ n
  | _ + 1, [], n => n
  | _ + 1, o, [] => o
  | f + 1, a :: o, b :: n => if cmpM a.id b.id < 0 then a :: mergeF f o (b :: n) else if cmpM a.id b.id = 0 then mergeF f o (b :: n) else b :: mergeF f (a :: o) n
theorem mergeF_nil_left (f : Nat) (n : List Mk) : mergeF f [] n = n := by cases f <;> simp [mergeF]
theorem mergeF_nil_right (f : Nat) (o : List Mk) : mergeF f o [] = o := by cases f <;> cases o <;> simp [mergeF]

def listOf (m : Nat) (F : Nat → Mk) : List Mk := (List.range m).map F
theorem listOf_cons (m : Nat) (F : Nat → Mk) : listOf (m + 1) F = F 0 :: listOf m (fun k => F (k + 1)) := by
  simp [listOf, List.range_succ_eq_map]
theorem listOf_snoc (m : Nat) (F : Nat → Mk) : listOf (m + 1) F = listOf m F ++ [F m] := by
  simp [listOf, List.range_succ]
theorem listOf_congr {m : Nat} {F G : Nat → Mk} (h : ∀ i, i < m → F i = G i) : listOf m F = listOf m G :=
  List.map_congr_left fun i hi => h i (List.mem_range.1 hi)
theorem listOf_length (m : Nat) (F : Nat → Mk) : (listOf m F).length = m := by simp [listOf]
theorem mem_listOf {m : Nat} {F : Nat → Mk} {x : Mk} : x ∈ listOf m F ↔ ∃ i, i < m ∧ F i = x := by simp [listOf]
theorem listOf_append (p : Nat) (G : Nat → Mk) : ∀ q, listOf (p + q) G = listOf p G ++ listOf q (fun i => G (p + i))
  | 0 => by simp [listOf]
  | q + 1 => by rw [← Nat.add_assoc, listOf_snoc, listOf_append p G q, listOf_snoc, List.append_assoc]
/-- One more at place p. -/
def ext (G : Nat → Mk) (p : Nat) (x : Mk) : Nat → Mk := fun q => if q = p then x else G q
theorem listOf_ext (p : Nat) (G : Nat → Mk) (x : Mk) : listOf (p + 1) (ext G p x) = listOf p G ++ [x] := by
  rw [listOf_snoc]
  congr 1
  · exact listOf_congr fun i hi => by simp [ext, Nat.ne_of_lt hi]
  · simp [ext]
theorem listOf_shift (l i : Nat) (F : Nat → Mk) : listOf (l + 1) (fun k => F (i + k)) = F i :: listOf l (fun k => F (i + 1 + k)) := by
  rw [listOf_cons]
  congr 1
  exact listOf_congr fun k _ => by rw [show i + (k + 1) = i + 1 + k by omega]

section
variable {F F' G : Nat → Mk} {p i j l n : Nat}
theorem merge_lt (h : cmpM (F i).id (F' j).id < 0) : listOf (p + 1) (ext G p (F i)) ++ mergeF (l + (n + 1)) (listOf l (fun k => F (i + 1 + k))) (listOf (n + 1) (fun k => F' (j + k))) =
    listOf p G ++ mergeF (l + 1 + (n + 1)) (listOf (l + 1) (fun k => F (i + k))) (listOf (n + 1) (fun k => F' (j + k))) := by
  rw [listOf_ext, listOf_shift l i F, listOf_shift n j F', show l + 1 + (n + 1) = (l + (n + 1)) + 1 by omega, mergeF, if_pos h, List.append_assoc]
  rfl
theorem merge_eq (h : cmpM (F i).id (F' j).id = 0) : listOf p G ++ mergeF (l + (n + 1)) (listOf l (fun k => F (i + 1 + k))) (listOf (n + 1) (fun k => F' (j + k))) =
    listOf p G ++ mergeF (l + 1 + (n + 1)) (listOf (l + 1) (fun k => F (i + k))) (listOf (n + 1) (fun k => F' (j + k))) := by
  rw [listOf_shift l i F, listOf_shift n j F', show l + 1 + (n + 1) = (l + (n + 1)) + 1 by omega, mergeF, if_neg (by omega), if_pos h]
theorem merge_gt (h : 0 < cmpM (F i).id (F' j).id) : listOf (p + 1) (ext G p (F' j)) ++ mergeF (l + 1 + n) (listOf (l + 1) (fun k => F (i + k))) (listOf n (fun k => F' (j + 1 + k))) =
    listOf p G ++ mergeF (l + 1 + (n + 1)) (listOf (l + 1) (fun k => F (i + k))) (listOf (n + 1) (fun k => F' (j + k))) := by
  rw [listOf_ext, listOf_shift l i F, listOf_shift n j F', show l + 1 + (n + 1) = (l + 1 + n) + 1 by omega, mergeF, if_neg (by omega), if_neg (by omega), List.append_assoc]
  rfl
end

/-! ### What the merge is good for -/
def AscL (L : List Mk) : Prop := L.Pairwise fun x y => cmpM x.id y.id < 0
theorem ascL_of {F : Nat → Mk} {m : Nat} (h : Asc F m) : AscL (listOf m F) := by
  unfold AscL listOf
  rw [List.pairwise_map]
  exact List.Pairwise.imp_of_mem (fun ha hb hab => h.lt' hab (List.mem_range.1 hb)) List.pairwise_lt_range
theorem asc_of {F : Nat → Mk} {m : Nat} (h : AscL (listOf m F)) : Asc F m := by
  intro i hi
  have := List.pairwise_iff_getElem.1 h i (i + 1) (by rw [listOf_length]; omega) (by rw [listOf_length]; omega) (by omega)
  simpa [listOf] using this

/-- The ID of x stands in n. -/
def inL (n : List Mk) (x : Mk) : Bool := n.any fun y => cmpM x.id y.id == 0
def common (o n : List Mk) : Nat := (o.filter (inL n)).length

theorem merge_mem : ∀ (f : Nat) (o n : List Mk) (x : Mk), x ∈ mergeF f o n → x ∈ o ∨ x ∈ n
  | 0, o, n, x, h => by simpa [mergeF] using h
  | f + 1, [], n, x, h => by rw [mergeF_nil_left] at h; exact .inr h
  | f + 1, o, [], x, h => by rw [mergeF_nil_right] at h; exact .inl h
  | f + 1, a :: o, b :: n, x, h => by
    unfold mergeF at h
    split at h
    · rcases List.mem_cons.1 h with rfl | h
      · exact .inl (List.mem_cons_self)
      · rcases merge_mem f o (b :: n) x h with h | h
        · exact .inl (List.mem_cons_of_mem _ h)
        · exact .inr h
    · split at h
      · rcases merge_mem f o (b :: n) x h with h | h
        · exact .inl (List.mem_cons_of_mem _ h)
        · exact .inr h
      · rcases List.mem_cons.1 h with rfl | h
        · exact .inr (List.mem_cons_self)
        · rcases merge_mem f (a :: o) n x h with h | h
          · exact .inl h
          · exact .inr (List.mem_cons_of_mem _ h)

/-- The four things that the law asks. -/
structure Whole (o n g : List Mk) : Prop where
  asc : AscL g
  newer : ∀ x, x ∈ n → x ∈ g
  older : ∀ x, x ∈ o → inL n x = false → x ∈ g
  length : g.length + common o n = o.length + n.length

theorem inL_false {n : List Mk} {x : Mk} (h : ∀ y, y ∈ n → cmpM x.id y.id ≠ 0) : inL n x = false := by
  simp only [inL, List.any_eq_false, beq_iff_eq]
  exact h
theorem common_none {o n : List Mk} (h : ∀ x, x ∈ o → inL n x = false) : common o n = 0 := by
  unfold common
  rw [List.length_eq_zero_iff, List.filter_eq_nil_iff]
  intro x hx
  simp [h x hx]

theorem whole_merge : ∀ (f : Nat) (o n : List Mk), o.length + n.length ≤ f → AscL o → AscL n → Whole o n (mergeF f o n)
  | 0, o, n, hf, ho, hn => by
    have h1 : o = [] := List.length_eq_zero_iff.1 (by omega)
    have h2 : n = [] := List.length_eq_zero_iff.1 (by omega)
    subst h1 h2
    exact ⟨List.Pairwise.nil, fun x h => h, fun x h _ => h, rfl⟩
  | f + 1, [], n, hf, ho, hn => by
    rw [mergeF_nil_left]
    exact ⟨hn, fun x h => h, (fun x h _ => by cases h), by simp [common]⟩
  | f + 1, a :: o, [], hf, ho, hn => by
    rw [mergeF_nil_right]
    exact ⟨ho, (fun x h => by cases h), fun x h _ => h, by rw [common_none (fun x _ => rfl)]; simp⟩
  | f + 1, a :: o, b :: n, hf, ho, hn => by
    have ho' := List.pairwise_cons.1 ho
    have hn' := List.pairwise_cons.1 hn
    unfold mergeF
    split
    · rename_i hlt
      have ih := whole_merge f o (b :: n) (by simp at hf ⊢; omega) ho'.2 hn
      have hab : ∀ y, y ∈ b :: n → cmpM a.id y.id < 0 := fun y hy => by
        rcases List.mem_cons.1 hy with rfl | hy
        · exact hlt
        · exact cmpM_trans hlt (hn'.1 y hy)
      have hna : inL (b :: n) a = false := inL_false fun y hy => by have := hab y hy; omega
      refine ⟨List.pairwise_cons.2 ⟨fun y hy => ?_, ih.asc⟩, fun x hx => List.mem_cons_of_mem _ (ih.newer x hx), fun x hx hne => ?_, ?_⟩
      · rcases merge_mem _ _ _ _ hy with h | h
        · exact ho'.1 y h
        · exact hab y h
      · rcases List.mem_cons.1 hx with rfl | hx
        · exact List.mem_cons_self
        · exact List.mem_cons_of_mem _ (ih.older x hx hne)
      · have := ih.length
        have e : common (a :: o) (b :: n) = common o (b :: n) := by simp [common, hna]
        rw [e]
        simp at this ⊢
        omega
    · split
      · rename_i h1 h2
        have ih := whole_merge f o (b :: n) (by simp at hf ⊢; omega) ho'.2 hn
        have hya : inL (b :: n) a = true := by simp [inL, h2]
        refine ⟨ih.asc, ih.newer, fun x hx hne => ?_, ?_⟩
        · rcases List.mem_cons.1 hx with rfl | hx
          · rw [hya] at hne; cases hne
          · exact ih.older x hx hne
        · have := ih.length
          have e : common (a :: o) (b :: n) = common o (b :: n) + 1 := by simp [common, hya]
          rw [e]
          simp at this ⊢
          omega
      · rename_i h1 h2
        have hgt : cmpM b.id a.id < 0 := by rw [cmpM_swap]; omega
        have ih := whole_merge f (a :: o) n (by simp at hf ⊢; omega) ho hn'.2
        have hba : ∀ x, x ∈ a :: o → cmpM b.id x.id < 0 := fun x hx => by
          rcases List.mem_cons.1 hx with rfl | hx
          · exact hgt
          · exact cmpM_trans hgt (ho'.1 x hx)
        have hsame : ∀ x, x ∈ a :: o → inL (b :: n) x = inL n x := fun x hx => by
          have : cmpM x.id b.id ≠ 0 := by have := hba x hx; rw [cmpM_swap]; omega
          simp [inL, this]
        refine ⟨List.pairwise_cons.2 ⟨fun y hy => ?_, ih.asc⟩, fun x hx => ?_, fun x hx hne => ?_, ?_⟩
        · rcases merge_mem _ _ _ _ hy with h | h
          · exact hba y h
          · exact hn'.1 y h
        · rcases List.mem_cons.1 hx with rfl | hx
          · exact List.mem_cons_self
          · exact List.mem_cons_of_mem _ (ih.newer x hx)
        · exact List.mem_cons_of_mem _ (ih.older x hx (by rw [← hsame x hx]; exact hne))
        · have := ih.length
          have e : common (a :: o) (b :: n) = common (a :: o) n := by
            unfold common
            rw [List.filter_congr hsame]
          rw [e]
          simp at this ⊢
          omega

end Go.Proofs.Qxb6604243a
