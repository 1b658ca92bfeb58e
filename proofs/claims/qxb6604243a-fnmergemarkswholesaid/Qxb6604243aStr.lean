/-
  cmpStr (33); strings.Compare (35) by way of internal/bytealg (36); strictlyAscending (25); findSM (29).
-/
import Derived.Test.Qxb6604243aMarks
import Derived.Test.Qxb6604243aCmp
import Derived.Lib.Strings
import Derived.Lib.Slices
import Derived.Lib.Walk
import Derived.Lib.Bytealg
namespace Go.Proofs.Qxb6604243a
open Go.RowKit

set_option maxHeartbeats 1000000 in
set_option maxRecDepth 100000 in
theorem compare36 (a b : ByteArray) (w : World) :
    Calls Try.prog 36 #[.string a, .string b] w fun e w' => e = .returned (.int .i64 (Lib.compareBytes a.data.toList b.data.toList)) ∧ w' = w := by
  go_enter Try.func36, Try.ntmps36
  go_wp2
  rw [run_callFunc_extern Try.func37 (by kernel_rfl) (by kernel_rfl) (by kernel_rfl) (e := Extern.BytealgCompare.compare) (by kernel_rfl), Lib.run_compareString]
  simp only [Result.andThen]
  rw [Oper.upon_value]
  go_wp2
  go_ret
  exact ⟨rfl, rfl⟩
theorem compare35 (a b : ByteArray) (w : World) :
    Calls Try.prog 35 #[.string a, .string b] w fun e w' => e = .returned (.int .i64 (cmpM a b)) ∧ w = w' := by
  go_enter Try.func35, Try.ntmps35
  go_wp2_with (go_at_call 36; refine (compare36 _ _ _).mono ?_; rintro e w' ⟨rfl, rfl⟩)
  go_ret
  exact ⟨rfl, rfl⟩

/-- cmpStr: the answer; the world but for draws. -/
def CmpPost (a b : ByteArray) (w : World) (e : Ending) (w' : World) : Prop := e = .returned (.int .i64 (cmpM a b)) ∧ ∃ q, w' = w.drewN q

theorem cmpPost_mk {a b : ByteArray} {v : Int} {w w' : World} (h : cmpM a b = v) (hw : ∃ q, w' = w.drewN q) : CmpPost a b w (.returned (.int .i64 v)) w' := ⟨by rw [h], hw⟩
theorem data_get (a : ByteArray) (k : Nat) (h : k < a.size) : a.data.toList[k]'(by simpa using h) = a[k] := rfl
theorem drewN_add (w : World) (p q : Nat) : (w.drewN p).drewN q = w.drewN (p + q) := by
  simp [World.drewN, Nat.add_assoc]
theorem cmpM_at {a b : ByteArray} {k : Nat} (ha : k < a.size) (hb : k < b.size) (he : ∀ i, i < k → a.data.toList[i]? = b.data.toList[i]?) (hne : a[k] ≠ b[k]) : cmpM a b = if a[k] < b[k] then -1 else 1 :=
  cb_at k a.data.toList b.data.toList (by simpa using ha) (by simpa using hb) he hne
theorem cmpM_end {a b : ByteArray} (he : ∀ i, i < a.size → i < b.size → a.data.toList[i]? = b.data.toList[i]?) : cmpM a b = if a.size < b.size then -1 else if b.size < a.size then 1 else 0 := by
  have := cb_end a.data.toList b.data.toList (fun i h1 h2 => he i (by simpa using h1) (by simpa using h2))
  simpa [cmpM] using this

set_option maxHeartbeats 4000000 in
theorem cmpStr_any (a b : ByteArray) (w : World) (ha : a.size ≤ 9223372036854775807) (hb : b.size ≤ 9223372036854775807) : Calls Try.prog 33 #[.string a, .string b] w (CmpPost a b w) := by
  obtain ⟨n, hn⟩ : ∃ n, n = min a.size b.size := ⟨_, rfl⟩
  have hna : n ≤ a.size := by omega
  have hnb : n ≤ b.size := by omega
  have hnn : n = a.size ∨ n = b.size := by omega
  have HN := hide hnn
  clear hn hnn
  have hways : (b.size < a.size ∧ Hid (n = b.size)) ∨ (¬ b.size < a.size ∧ Hid (n = a.size)) := by
    by_cases h : b.size < a.size
    · exact .inl ⟨h, by rcases HN.out with h' | h' <;> (show n = b.size; omega)⟩
    · exact .inr ⟨h, by rcases HN.out with h' | h' <;> (show n = a.size; omega)⟩
  clear HN
  rcases hways with ⟨hlt, HN⟩ | ⟨hlt, HN⟩
  all_goals
    go_enter Try.func33, Try.ntmps33
    go_wp2
    go_loopg [6] n (fun gg s6 wr => ∃ k q : Nat, k ≤ n ∧ gg = n - k ∧ s6 = .int .i64 k ∧ (∀ i, i < k → a.data.toList[i]? = b.data.toList[i]?) ∧ wr = w.drewN q)
    case atStart => exact ⟨0, 0, Nat.zero_le _, rfl, rfl, fun i hi => absurd hi (Nat.not_lt_zero _), rfl⟩
    case round =>
      obtain ⟨k, q, hk, rfl, rfl, he, rfl⟩ := hrel
      have HE := hide he
      clear he
      by_cases hkn : k < n
      · have hka : k < a.size := by omega
        have hkb : k < b.size := by omega
        have hka' : (k : Int) < (a.size : Int) := by omega
        have hkb' : (k : Int) < (b.size : Int) := by omega
        have hkn' : (k : Int) < (n : Int) := by omega
        by_cases h1 : a[k] = b[k]
        · have t1 : (((a[k]).toNat : Int) != ((b[k]).toNat : Int)) = false := by simp [h1]
          have HX : Hid (∀ i, i < k + 1 → a.data.toList[i]? = b.data.toList[i]?) := fun i hi => by
            by_cases e : i = k
            · subst e
              rw [List.getElem?_eq_getElem (by simpa using hka), List.getElem?_eq_getElem (by simpa using hkb)]
              exact congrArg some h1
            · exact HE.out i (by omega)
          clear h1 HE
          go_wp2
          go_quiet (fail)
          go_wp2
          go_roundg (n - (k + 1))
          case measure => omega
          case rel => exact ⟨k + 1, q + nq, by omega, rfl, by go_num, HX.out, rfl⟩
        · have hne : (a[k]).toNat ≠ (b[k]).toNat := fun h => h1 (UInt8.toNat_inj.1 h)
          have t1 : (((a[k]).toNat : Int) != ((b[k]).toNat : Int)) = true := by rw [bne_iff_ne]; omega
          have hval := cmpM_at hka hkb HE.out h1
          by_cases h2 : (a[k]).toNat < (b[k]).toNat
          · have t2 : ((a[k]).toNat : Int) < ((b[k]).toNat : Int) := by omega
            rw [if_pos (UInt8.lt_iff_toNat_lt.2 h2)] at hval
            have HV := hide hval
            clear hval h1 hne HE h2
            go_wp2
            go_quiet (fail)
            go_wp2
            go_quiet (fail)
            go_wp2
            go_ret
            exact cmpPost_mk HV.out (by first | exact ⟨_, rfl⟩ | exact ⟨_, drewN_add _ _ _⟩ | exact ⟨_, by rw [drewN_add, drewN_add]⟩)
          · have t2 : ¬ ((a[k]).toNat : Int) < ((b[k]).toNat : Int) := by omega
            rw [if_neg (fun h => h2 (UInt8.lt_iff_toNat_lt.1 h))] at hval
            have HV := hide hval
            clear hval h1 hne HE h2
            go_wp2
            go_quiet (fail)
            go_wp2
            go_quiet (fail)
            go_wp2
            go_ret
            exact cmpPost_mk HV.out (by first | exact ⟨_, rfl⟩ | exact ⟨_, drewN_add _ _ _⟩ | exact ⟨_, by rw [drewN_add, drewN_add]⟩)
      · have hval := cmpM_end (a := a) (b := b) (fun i h1 h2 => HE.out i (by have := HN.out; omega))
        have hz : ¬ (k : Int) < (n : Int) := by omega
        have hza : ¬ (k : Int) < (b.size : Int) ∨ ¬ (k : Int) < (a.size : Int) := by have := HN.out; omega
        by_cases s1 : a.size < b.size
        · first
          | (exfalso; omega)
          | (rw [if_pos s1] at hval
             have HV := hide hval
             have hz2 : ¬ (k : Int) < (a.size : Int) := by have := HN.out; omega
             clear hval HE hza
             go_wp2
             go_ret
             exact cmpPost_mk HV.out (by first | exact ⟨_, rfl⟩ | exact ⟨_, drewN_add _ _ _⟩ | exact ⟨_, by rw [drewN_add, drewN_add]⟩))
        · by_cases s2 : b.size < a.size
          · first
            | (exfalso; omega)
            | (rw [if_neg s1, if_pos s2] at hval
               have HV := hide hval
               have hz2 : ¬ (k : Int) < (b.size : Int) := by have := HN.out; omega
               clear hval HE hza
               go_wp2
               go_ret
               exact cmpPost_mk HV.out (by first | exact ⟨_, rfl⟩ | exact ⟨_, drewN_add _ _ _⟩ | exact ⟨_, by rw [drewN_add, drewN_add]⟩))
          · first
            | (exfalso; omega)
            | (rw [if_neg s1, if_neg s2] at hval
               have HV := hide hval
               have hz2 : ¬ (k : Int) < (a.size : Int) := by have := HN.out; omega
               clear hval HE hza
               go_wp2
               go_ret
               exact cmpPost_mk HV.out (by first | exact ⟨_, rfl⟩ | exact ⟨_, drewN_add _ _ _⟩ | exact ⟨_, by rw [drewN_add, drewN_add]⟩))

/-- The first m marks ascend strictly by ID. -/
def Asc (F : Nat → Mk) (m : Nat) : Prop := ∀ i, i + 1 < m → cmpM (F i).id (F (i + 1)).id < 0
theorem Asc.lt {F : Nat → Mk} {m : Nat} (h : Asc F m) : ∀ (d i : Nat), i + d + 1 < m → cmpM (F i).id (F (i + d + 1)).id < 0
  | 0, i, hi => h i hi
  | d + 1, i, hi => cmpM_trans (Asc.lt h d i (by omega)) (h (i + d + 1) hi)
theorem Asc.lt' {F : Nat → Mk} {m i j : Nat} (h : Asc F m) (hij : i < j) (hj : j < m) : cmpM (F i).id (F j).id < 0 := by
  have := h.lt (j - i - 1) i (by omega)
  rwa [show i + (j - i - 1) + 1 = j by omega] at this

/-- What strictlyAscending leaves. -/
def AscP (F : Nat → Mk) (m : Nat) (w : World) (e : Ending) (w' : World) : Prop := ∃ r : Bool, e = .returned (.bool r) ∧ (r = true ↔ Asc F m) ∧ ∃ q, w' = w.drewN q
theorem AscP.no {F : Nat → Mk} {m : Nat} {w w' : World} (h : ¬ Asc F m) (hw : ∃ q, w' = w.drewN q) : AscP F m w (.returned (.bool false)) w' := ⟨false, rfl, by simpa using h, hw⟩
theorem AscP.yes {F : Nat → Mk} {m : Nat} {w w' : World} (h : Asc F m) (hw : ∃ q, w' = w.drewN q) : AscP F m w (.returned (.bool true)) w' := ⟨true, rfl, by simpa using h, hw⟩
theorem MksAt.drewN {w : World} {ad : Option Addr} {m b off : Nat} {F : Nat → Mk} (h : MksAt w ad m b off F) (q : Nat) : MksAt (w.drewN q) ad m b off F := h.below (below_drewN (Below.refl _ _) q)

set_option maxHeartbeats 4000000 in
theorem asc25 (ad : Option Addr) (m mc b off : Nat) (F : Nat → Mk) (w : World) (hm : MksAt w ad m b off F) (c3 : m ≤ 65536) :
    Calls Try.prog 25 #[.slice ad m mc] w (AscP F m w) := by
  have HM := hide hm
  clear hm
  go_enter Try.func25, Try.ntmps25
  go_wp2
  go_loopg [3] m (fun gg s3 wr => ∃ j q : Nat, 1 ≤ j ∧ (j ≤ m ∨ j = 1) ∧ gg = m + 1 - j ∧ s3 = .int .i64 j ∧ Asc F j ∧ wr = w.drewN q)
  case atStart => exact ⟨1, 0, Nat.le_refl _, .inr rfl, by omega, rfl, fun i hi => by omega, rfl⟩
  case round =>
    obtain ⟨j, q, hj1, hj, rfl, rfl, hE, hw⟩ := hrel
    have HE := hide hE
    have HM1 : Hid (MksAt wr ad m b off F) := by rw [hw]; exact HM.out.drewN q
    have HW := hide hw
    clear hE hw
    by_cases hjm : j < m
    · obtain ⟨t, rfl⟩ : ∃ t, j = t + 1 := ⟨j - 1, by omega⟩
      have hz1 : (t : Int) + 1 < (m : Int) := by omega
      have hz2 : (t : Int) < (m : Int) := by omega
      obtain ⟨rfl⟩ := HM.out.1 (by omega)
      have h1 := (HM1.out.2.2.1 t (by omega)).1
      have h2 := (HM1.out.2.2.1 (t + 1) (by omega)).1
      have HZ1 := hide (HM.out.2.2.2 t (by omega))
      have HZ2 := hide (HM.out.2.2.2 (t + 1) (by omega))
      clear hj1 hj
      obtain ⟨c, hc⟩ : ∃ c, cmpM (F t).id (F (t + 1)).id = c := ⟨_, rfl⟩
      have hcm : ∀ w, Calls Try.prog 33 #[.string (F t).id, .string (F (t + 1)).id] w fun e w' => e = .returned (.int .i64 c) ∧ ∃ q, w' = w.drewN q := fun w => by
        rw [← hc]; exact cmpStr_any _ _ w HZ1.out HZ2.out
      have HCM := hide hcm
      have HC := hide hc
      clear hc hcm
      by_cases hlt : c < 0
      · go_wp2
        go_quiet ((go_at_call 33; exact Calls.quiet_of (HCM.out _)))
        go_wp2
        go_roundg (m + 1 - (t + 1 + 1))
        case measure => omega
        case rel =>
          refine ⟨t + 1 + 1, q + nq, by omega, .inl (by omega), rfl, by go_num, fun i hi => ?_, by rw [HW.out, drewN_add]⟩
          by_cases e : i = t
          · subst e; rw [HC.out]; exact hlt
          · exact HE.out i (by omega)
      · go_wp2
        go_quiet ((go_at_call 33; exact Calls.quiet_of (HCM.out _)))
        go_wp2
        go_ret
        refine AscP.no (fun h => ?_) ⟨q + nq, by rw [HW.out, drewN_add]⟩
        have := h t (by omega)
        rw [HC.out] at this
        omega
    · have hz : ¬ (j : Int) < (m : Int) := by omega
      clear hj1 hj
      go_wp2
      go_ret
      exact AscP.yes (fun i hi => HE.out i (by omega)) ⟨q, HW.out⟩

/-- What findSM leaves: a place at which the ID stands, or -1 and it stands nowhere. -/
def FindP (F : Nat → Mk) (m : Nat) (id : ByteArray) (w : World) (e : Ending) (w' : World) : Prop :=
  ((∃ i, i < m ∧ (F i).id = id ∧ e = .returned (.int .i64 (i : Nat))) ∨ ((∀ i, i < m → (F i).id ≠ id) ∧ e = .returned (.int .i64 (-1)))) ∧ ∃ q, w' = w.drewN q

set_option maxHeartbeats 4000000 in
theorem find29 (ad : Option Addr) (m mc b off : Nat) (F : Nat → Mk) (id : ByteArray) (w : World) (hm : MksAt w ad m b off F) (c3 : m ≤ 65536) (hid : id.size ≤ 9223372036854775807) (hasc : Asc F m) :
    Calls Try.prog 29 #[.slice ad m mc, .string id] w (FindP F m id w) := by
  have HM := hide hm
  have HA := hide hasc
  have HI := hide hid
  clear hm hasc hid
  go_enter Try.func29, Try.ntmps29
  go_wp2
  go_loopg [5, 6] m (fun gg s5 s6 wr => ∃ lo hi q : Nat, lo ≤ hi ∧ hi ≤ m ∧ gg = hi - lo ∧ s5 = .int .i64 lo ∧ s6 = .int .i64 hi ∧ (∀ i, i < lo → cmpM (F i).id id < 0) ∧ (∀ i, hi ≤ i → i < m → 0 < cmpM (F i).id id) ∧ wr = w.drewN q)
  case atStart => exact ⟨0, m, 0, Nat.zero_le _, Nat.le_refl _, rfl, rfl, rfl, fun i hi => by omega, fun i h1 h2 => by omega, rfl⟩
  case round =>
    obtain ⟨lo, hi, q, hle, hhi, rfl, rfl, rfl, hL, hR, hw⟩ := hrel
    have HL := hide hL
    have HR := hide hR
    have HM1 : Hid (MksAt wr ad m b off F) := by rw [hw]; exact HM.out.drewN q
    have HW := hide hw
    clear hL hR hw
    by_cases hlt : lo < hi
    · obtain ⟨d, hd⟩ : ∃ d, d = lo + (hi - lo) / 2 := ⟨_, rfl⟩
      have hd1 : lo ≤ d := by omega
      have hd2 : d < hi := by omega
      have hd3 : (lo : Int) + ((hi : Int) - (lo : Int)) / 2 = (d : Int) := by omega
      have hdz : (d : Int) < (m : Int) := by omega
      have hltz : (lo : Int) < (hi : Int) := by omega
      obtain ⟨rfl⟩ := HM.out.1 (by omega)
      have h1 := (HM1.out.2.2.1 d (by omega)).1
      have HZ1 := hide (HM.out.2.2.2 d (by omega))
      have HD := hide hd
      clear hd
      obtain ⟨c, hc⟩ : ∃ c, cmpM (F d).id id = c := ⟨_, rfl⟩
      have hcm : ∀ w, Calls Try.prog 33 #[.string (F d).id, .string id] w fun e w' => e = .returned (.int .i64 c) ∧ ∃ q, w' = w.drewN q := fun w => by
        rw [← hc]; exact cmpStr_any _ _ w HZ1.out HI.out
      have HCM := hide hcm
      have HC := hide hc
      clear hc hcm
      go_wp2_with fail
      refine (HCM.out _).mono ?_
      rintro e w1 ⟨rfl, q1, hw1⟩
      have HW1 : Hid (w1 = w.drewN (q + q1)) := by rw [hw1, HW.out, drewN_add]; exact rfl
      clear hw1 HCM h1
      by_cases c0 : c = 0
      · subst c0
        go_wp2
        go_ret
        exact ⟨.inl ⟨d, by omega, cmpM_eq HC.out, rfl⟩, _, HW1.out⟩
      · have c0' : (c == 0) = false := beq_eq_false_iff_ne.2 c0
        have HC0 := hide c0
        clear c0
        by_cases c1 : c < 0
        · go_wp2
          go_roundg (hi - (d + 1))
          case measure => omega
          case rel =>
            refine ⟨d + 1, hi, q + q1, by omega, hhi, rfl, by go_num, rfl, fun i hi' => ?_, HR.out, HW1.out⟩
            by_cases e : i = d
            · subst e; rw [HC.out]; exact c1
            · have := HA.out.lt' (i := i) (j := d) (by omega) (by omega)
              exact cmpM_trans this (by rw [HC.out]; exact c1)
        · have c1' : 0 < c := by have := HC0.out; omega
          go_wp2
          go_roundg (d - lo)
          case measure => omega
          case rel =>
            refine ⟨lo, d, q + q1, hd1, by omega, rfl, rfl, rfl, HL.out, fun i h1 h2 => ?_, HW1.out⟩
            by_cases e : i = d
            · subst e; rw [HC.out]; exact c1'
            · have h3 := HA.out.lt' (i := d) (j := i) (by omega) h2
              have h4 : cmpM id (F d).id < 0 := by rw [cmpM_swap, HC.out]; omega
              have h5 := cmpM_trans h4 h3
              rw [cmpM_swap] at h5
              omega
    · have hz : ¬ (lo : Int) < (hi : Int) := by omega
      go_wp2
      go_ret
      refine ⟨.inr ⟨fun i hi' e => ?_, rfl⟩, q, HW.out⟩
      by_cases h : i < lo
      · have := HL.out i h; rw [e, cmpM_refl] at this; omega
      · have := HR.out i (by omega) hi'; rw [e, cmpM_refl] at this; omega

end Go.Proofs.Qxb6604243a
