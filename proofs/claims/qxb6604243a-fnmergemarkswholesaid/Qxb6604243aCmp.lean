/-
  BYTES COMPARED: plain laws on 'Lib.compareBytes'.
-/
import Derived.Lib.Bytealg
namespace Go.Proofs.Qxb6604243a
open Go.Lib (compareBytes)

/-- Two session IDs compared. -/
def cmpM (a b : ByteArray) : Int := compareBytes a.data.toList b.data.toList

theorem cb_refl : ∀ x : List UInt8, compareBytes x x = 0
  | [] => rfl
  | a :: x => by simp [compareBytes, UInt8.lt_irrefl, cb_refl x]
theorem cb_eq : ∀ x y : List UInt8, compareBytes x y = 0 → x = y
  | [], [], _ => rfl
  | [], _ :: _, h => by simp [compareBytes] at h
  | _ :: _, [], h => by simp [compareBytes] at h
  | a :: x, b :: y, h => by
    unfold compareBytes at h
    by_cases h1 : a < b
    · simp [h1] at h
    · by_cases h2 : b < a
      · simp [h1, h2] at h
      · simp only [h1, h2, if_false] at h
        have e : a = b := UInt8.le_antisymm (UInt8.not_lt.1 h2) (UInt8.not_lt.1 h1)
        rw [e, cb_eq x y h]
theorem cb_swap : ∀ x y : List UInt8, compareBytes y x = - compareBytes x y
  | [], [] => rfl
  | [], _ :: _ => rfl
  | _ :: _, [] => rfl
  | a :: x, b :: y => by
    unfold compareBytes
    by_cases h1 : a < b
    · have h2 : ¬ b < a := fun h => UInt8.lt_irrefl _ (UInt8.lt_trans h1 h)
      simp [h1, h2]
    · by_cases h2 : b < a
      · simp [h1, h2]
      · simp only [h1, h2, if_false]
        exact cb_swap x y
theorem cb_trans : ∀ x y z : List UInt8, compareBytes x y < 0 → compareBytes y z < 0 → compareBytes x z < 0
  | [], [], _, h, _ => by simp [compareBytes] at h
  | [], _ :: _, [], _, h => by simp [compareBytes] at h
  | [], _ :: _, _ :: _, _, _ => by simp [compareBytes]
  | _ :: _, [], _, h, _ => by simp [compareBytes] at h
  | _ :: _, _ :: _, [], _, h => by simp [compareBytes] at h
  | a :: x, b :: y, c :: z, h1, h2 => by
    unfold compareBytes at h1 h2 ⊢
    simp only [UInt8.lt_iff_toNat_lt] at h1 h2 ⊢
    by_cases p1 : a.toNat < b.toNat
    · by_cases q1 : b.toNat < c.toNat
      · rw [if_pos (by omega)]; omega
      · by_cases q2 : c.toNat < b.toNat
        · rw [if_neg q1, if_pos q2] at h2; omega
        · rw [if_pos (by omega)]; omega
    · by_cases p2 : b.toNat < a.toNat
      · rw [if_neg p1, if_pos p2] at h1; omega
      · rw [if_neg p1, if_neg p2] at h1
        by_cases q1 : b.toNat < c.toNat
        · rw [if_pos (by omega)]; omega
        · by_cases q2 : c.toNat < b.toNat
          · rw [if_neg q1, if_pos q2] at h2; omega
          · rw [if_neg q1, if_neg q2] at h2
            rw [if_neg (by omega), if_neg (by omega)]
            exact cb_trans x y z h1 h2
/-- The first place at which they part decides. -/
theorem cb_at : ∀ (k : Nat) (x y : List UInt8) (hx : k < x.length) (hy : k < y.length), (∀ i, i < k → x[i]? = y[i]?) → x[k] ≠ y[k] → compareBytes x y = if x[k] < y[k] then -1 else 1
  | 0, a :: x, b :: y, _, _, _, hne => by
    unfold compareBytes
    simp only [List.getElem_cons_zero] at hne ⊢
    by_cases h1 : a < b
    · simp [h1]
    · have h2 : b < a := by
        rw [UInt8.lt_iff_toNat_lt] at h1 ⊢
        have : a.toNat ≠ b.toNat := fun h => hne (UInt8.toNat_inj.1 h)
        omega
      simp [h1, h2]
  | k + 1, a :: x, b :: y, hx, hy, he, hne => by
    have h0 : a = b := by simpa using he 0 (by omega)
    subst h0
    unfold compareBytes
    simp only [UInt8.lt_irrefl, if_false, List.getElem_cons_succ] at hne ⊢
    exact cb_at k x y (by simpa using hx) (by simpa using hy) (fun i hi => by simpa using he (i + 1) (by omega)) hne
  | _, [], _, hx, _, _, _ => by simp at hx
  | _, _ :: _, [], _, hy, _, _ => by simp at hy
/-- One is the other's head: the lengths decide. -/
theorem cb_end : ∀ (x y : List UInt8), (∀ i, i < x.length → i < y.length → x[i]? = y[i]?) → compareBytes x y = if x.length < y.length then -1 else if y.length < x.length then 1 else 0
  | [], [], _ => rfl
  | [], _ :: _, _ => by simp [compareBytes]
  | _ :: _, [], _ => by simp [compareBytes]
  | a :: x, b :: y, he => by
    have h0 : a = b := by simpa using he 0 (by simp) (by simp)
    subst h0
    unfold compareBytes
    simp only [UInt8.lt_irrefl, if_false, List.length_cons, Nat.add_lt_add_iff_right]
    exact cb_end x y (fun i h1 h2 => by simpa using he (i + 1) (by simpa using h1) (by simpa using h2))

theorem cmpM_refl (a : ByteArray) : cmpM a a = 0 := cb_refl _
theorem cmpM_swap (a b : ByteArray) : cmpM b a = - cmpM a b := cb_swap _ _
theorem cmpM_trans {a b c : ByteArray} (h1 : cmpM a b < 0) (h2 : cmpM b c < 0) : cmpM a c < 0 := cb_trans _ _ _ h1 h2
theorem cmpM_eq {a b : ByteArray} (h : cmpM a b = 0) : a = b := by
  have := cb_eq _ _ h
  obtain ⟨⟨x⟩⟩ := a
  obtain ⟨⟨y⟩⟩ := b
  simp only at this
  rw [this]

end Go.Proofs.Qxb6604243a
