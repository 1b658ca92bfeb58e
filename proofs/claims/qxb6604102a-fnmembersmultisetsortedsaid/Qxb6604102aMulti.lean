/-
  FnMembersMultisetSorted (5): the walk.
-/
import Derived.Test.Qxb6604102aCount
import Derived.WalkArith
import Derived.Carry
namespace Go.Proofs.Qxb6604102a
open Go.RowKit Go.Maps

theorem cN_bound (n : Nat) (F : Nat → Rp) : ∀ (k : Nat) (x : Int), 0 ≤ cN n F k x ∧ cN n F k x ≤ k + 1
  | 0, x => by
    show 0 ≤ (if 1 ≤ x ∧ x ≤ n then (1 : Int) else 0) ∧ (if 1 ≤ x ∧ x ≤ n then (1 : Int) else 0) ≤ _
    split <;> omega
  | k + 1, x => by
    have ih := cN_bound n F k
    show 0 ≤ (if 0 < cN n F k (F k).rd then _ else cN n F k) x ∧ (if 0 < cN n F k (F k).rd then _ else cN n F k) x ≤ _
    have h1 := ih x
    have h2 := ih (F k).rd
    have h3 := ih (F k).sp
    by_cases hp : 0 < cN n F k (F k).rd
    · rw [if_pos hp]
      simp only [upd]
      split
      · split <;> omega
      · split <;> omega
    · rw [if_neg hp]; omega
theorem cN_yes {n : Nat} {F : Nat → Rp} {k : Nat} {v u : Int} (hp : 0 < cN n F k (F k).rd) (hv : cN n F k (F k).rd = v) (hu : upd (cN n F k) (F k).rd (v - 1) (F k).sp = u) :
    upd (upd (cN n F k) (F k).rd (v - 1)) (F k).sp (u + 1) = cN n F (k + 1) := by
  show _ = (if 0 < cN n F k (F k).rd then _ else cN n F k)
  rw [if_pos hp]
  subst hv
  subst hu
  rfl
theorem cN_no {n : Nat} {F : Nat → Rp} {k : Nat} (hp : ¬ 0 < cN n F k (F k).rd) : cN n F k = cN n F (k + 1) := by
  show _ = (if 0 < cN n F k (F k).rd then _ else cN n F k)
  rw [if_neg hp]

/-- What the last loops read. -/
def Reads (n g B N : Nat) (f : Nat → Int) (c : Int → Int) (w2 wr : World) : Prop :=
  (∀ i, i < n → wr.cell? ⟨g, i, none⟩ = some (.int .u32 (f i))) ∧ Cnt wr B N c ∧ Below w2.heap.size w2 wr
theorem Reads.drewN {n g B N : Nat} {f : Nat → Int} {c : Int → Int} {w2 wr : World} (h : Reads n g B N f c w2 wr) (q : Nat) : Reads n g B N f c w2 (wr.drewN q) :=
  ⟨h.1, h.2.1.drewN q, ⟨h.2.2.os, h.2.2.tape, h.2.2.output, h.2.2.size, h.2.2.block⟩⟩

theorem run_len {n m : Nat} {F : Nat → Rp} {l zs : List Int} {f : Nat → Int} (hf : ∀ i, f i = zs.getD i 0) (hl : Mem n F m l) (hz : zs = l.mergeSort fun x y => decide (x ≤ y)) {p t : Nat} (hpt : p < t) (htn : t ≤ n)
    (h1 : ∀ q, q < p → f q < f p) (h2 : ∀ q, p ≤ q → q < t → f q = f p) (h3 : t < n → f t ≠ f p) : cN n F m (f p) = (t : Int) - (p : Int) ∧ (t < n → f p < f t ∧ ∀ q, q < t → f q < f t) := by
  have hp : zs.Perm l := by rw [hz]; exact List.mergeSort_perm _ _
  have hlen : zs.length = n := by rw [hp.length_eq]; exact hl.length
  have hs := sorted_le l zs hz
  have hlt : t < n → f p < f t := fun h => by
    have := hs p t (by omega) (by omega)
    rw [← hf, ← hf] at this
    have := h3 h
    omega
  refine ⟨?_, fun h => ⟨hlt h, fun q hq => ?_⟩⟩
  · have hcr := count_run zs (f p) p t (by omega) (by omega) (fun q hq => by rw [← hf]; have := h1 q hq; omega) (fun q hq hqt => by rw [← hf]; exact h2 q hq hqt) (fun q hq hqn => by
      have h4 := hlt (by omega)
      have := hs t q hq hqn
      rw [← hf, ← hf] at this
      rw [← hf]
      omega)
    rw [← hl.count, ← hp.count_eq, hcr]
    omega
  · have := hlt h
    by_cases hqp : q < p
    · have := h1 q hqp; omega
    · have := h2 q (by omega) hq; omega

set_option maxHeartbeats 8000000 in
set_option maxRecDepth 100000 in
theorem multi_main (n m cap b off : Nat) (ad : Option Addr) (F : Nat → Rp) (w : World) (hm : m ≤ 65536) (hn : n ≤ 65536) (hz : RpAt w ad m b off F) :
    Calls Try.prog 5 #[.int .i64 n, .slice ad m cap] w (Good w) := by
  have hmm := @run_makeMap Try.prog
  have HZ := hide hz
  clear hz
  go_enter Try.func5, Try.ntmps5
  go_wp2_with fail
  refine (bytes11_yes _ ad m cap w (by omega)).mono ?_
  rintro e w0 ⟨rfl, rfl⟩
  go_wp2_with fail
  refine (torepls_all ad m cap b off F w hm HZ.out).mono ?_
  rintro e w1 ⟨ad1, g1, cap1, rfl, hrp, hg1, hb1⟩
  have HR := hide hrp
  have HB1 := hide hb1
  clear hrp hb1 hg1
  go_wp2_with fail
  refine (members13 n m cap1 g1 0 ad1 F w1 hn hm HR.out).mono ?_
  rintro e w2 ⟨g, l, zs, hg, rfl, hl, hzs, hc, hb2⟩
  have HR2 := hide (HR.out.below hb2)
  have HB := hide (HB1.out.trans (hb2.mono HB1.out.size))
  obtain ⟨f, hf⟩ : ∃ f : Nat → Int, ∀ i, f i = zs.getD i 0 := ⟨fun i => zs.getD i 0, fun _ => rfl⟩
  have HC := hide (fun i (hi : i < n) => (show w2.cell? ⟨g, i, none⟩ = some (.int .u32 (f i)) by rw [hf]; exact hc i hi))
  have HL := hide (fun (p t : Nat) (a1 : p < t) (a2 : t ≤ n) a3 a4 a5 => run_len hf hl hzs (p := p) (t := t) a1 a2 a3 a4 a5)
  have HU := hide (fun i (hi : i < n) => (show (Lit.int .u32 (f i)).wf = true from by
    have hp : zs.Perm l := by rw [hzs]; exact List.mergeSort_perm _ _
    have hlen : zs.length = n := by rw [hp.length_eq]; exact hl.length
    have hi' : i < zs.length := by omega
    have hmem : f i ∈ l := hp.mem_iff.1 (by
      rw [hf, List.getD, List.getElem?_eq_getElem hi', Option.getD_some]
      exact List.getElem_mem hi')
    exact WalkArith.wf_u32 (hl.within hn (fun i hi => (HZ.out.2.2.2 i hi).2) (Nat.le_refl _) _ hmem)))
  have HF := hide (fun i (hi : i < m) => (show (Lit.int .u32 (F i).rd).wf = true ∧ (Lit.int .u32 (F i).sp).wf = true from ⟨WalkArith.wf_u32 (HZ.out.2.2.2 i hi).1, WalkArith.wf_u32 (HZ.out.2.2.2 i hi).2⟩))
  clear hf hl hzs hc hb2 hg HR HB1 HZ
  have hC0 := hide (Cnt.made w2)
  have hB0 : Below w2.heap.size w2 (w2.alloc (.map #[] 0)) := (Below.refl _ _).alloc (Nat.le_refl _) _
  go_wp2
  clear hmm
  go_loopg [8] n (fun gg i wr => ∃ k : Nat, k ≤ n ∧ gg = n - k ∧ i = .int .i64 ((k : Int) + 1) ∧ Hid (Cnt wr w2.heap.size k (fun x => if 1 ≤ x ∧ x ≤ k then 1 else 0)) ∧ Below w2.heap.size w2 wr)
  case atStart =>
    refine ⟨0, Nat.zero_le _, rfl, rfl, ?_, hB0⟩
    have e : (fun x : Int => if 1 ≤ x ∧ x ≤ ((0 : Nat) : Int) then (1 : Int) else 0) = fun _ => 0 := by
      funext x
      rw [if_neg (by omega)]
    rw [e]
    exact hC0
  case round =>
    clear hC0 hB0
    obtain ⟨k, hk, rfl, rfl, hC, hbel⟩ := hrel
    by_cases hkn : k < n
    · have hkz : (k : Int) + 1 ≤ (n : Int) := by omega
      go_wp2_with (first
        | (at_mapUpdate; refine wp_store _ w2.heap.size k _ ((k : Int) + 1) 1 hC (by omega) (WalkArith.wf_u32 (by omega)) (WalkArith.wf_i64 (by omega)) rfl _ _ _ rfl rfl rfl rfl ?_; intro w3 hC3 hg3)
        | go_in)
      go_roundg (n - (k + 1))
      case measure => omega
      case rel =>
        refine ⟨k + 1, by omega, rfl, by go_num, ?_, hbel.grown hg3 hbel.size (fun j hj => by cases hj; exact Nat.le_refl _)⟩
        have e : upd (fun x : Int => if 1 ≤ x ∧ x ≤ (k : Int) then (1 : Int) else 0) ((k : Int) + 1) 1 = fun x : Int => if 1 ≤ x ∧ x ≤ ((k + 1 : Nat) : Int) then (1 : Int) else 0 := by
          funext x
          simp only [upd]
          (repeat' split) <;> omega
        rw [← e]
        exact hC3
    · have e : n = k := by omega
      subst e
      have hkz : ¬ ((n : Int) + 1 ≤ (n : Int)) := by omega
      have hCs : Hid (Cnt wr w2.heap.size n (cN n F 0)) := hC
      clear hC
      go_wp2
      go_loopg [9] m (fun gg i wr2 => ∃ k : Nat, k ≤ m ∧ gg = m - k ∧ i = .int .i64 k ∧ Hid (Cnt wr2 w2.heap.size (n + 2 * k) (cN n F k)) ∧ Below w2.heap.size w2 wr2)
      case atStart => exact ⟨0, Nat.zero_le _, rfl, rfl, hCs, hbel⟩
      case round =>
        clear hCs hbel
        obtain ⟨k, hk, rfl, rfl, hC, hbel⟩ := hrel
        by_cases hkm : k < m
        · have hkmz : (k : Int) < (m : Int) := by omega
          have hadr := HR2.out.1 (by omega)
          subst hadr
          obtain ⟨c0, c1, _⟩ := (HR2.out.below hbel).2.2.1 k hkm
          rw [Nat.zero_add] at c0 c1
          obtain ⟨wf0, wf1⟩ := HF.out k hkm
          have hb := cN_bound n F k (F k).rd
          obtain ⟨v, hv⟩ := Int.eq_ofNat_of_zero_le hb.1
          have HV := hide hv
          by_cases hp : 0 < v
          · have hvb : v ≤ 65537 := by omega
            have hub : 0 ≤ upd (cN n F k) (F k).rd ((v : Int) - 1) (F k).sp ∧ upd (cN n F k) (F k).rd ((v : Int) - 1) (F k).sp ≤ 65537 := by
              have := cN_bound n F k (F k).sp
              unfold upd
              split <;> omega
            obtain ⟨u, hu⟩ := Int.eq_ofNat_of_zero_le hub.1
            have hubb : u ≤ 65537 := by omega
            have HUU := hide hu
            have HY := hide (cN_yes (n := n) (F := F) (k := k) (v := v) (u := u) (by omega) hv hu)
            have hpz : (0 : Int) < (v : Int) := by omega
            clear hv hu hub hb
            go_wp2_with (first
              | (at_lookup; refine wp_look wr w2.heap.size (n + 2 * k) (cN n F k) (F k).rd v hC HV wf0 rfl _ _ rfl rfl rfl ?_)
              | (at_mapUpdate; refine wp_store wr w2.heap.size (n + 2 * k) (cN n F k) (F k).rd ((v : Int) - 1) hC (by omega) wf0 (WalkArith.wf_i64 (by omega)) rfl _ _ _ rfl rfl rfl rfl ?_; intro w3 hC3 hg3)
              | (at_lookup; refine wp_look w3 w2.heap.size (n + 2 * k + 1) (upd (cN n F k) (F k).rd ((v : Int) - 1)) (F k).sp u hC3 HUU wf1 rfl _ _ rfl rfl rfl ?_)
              | (at_mapUpdate; refine wp_store w3 w2.heap.size (n + 2 * k + 1) (upd (cN n F k) (F k).rd ((v : Int) - 1)) (F k).sp ((u : Int) + 1) hC3 (by omega) wf1 (WalkArith.wf_i64 (by omega)) rfl _ _ _ rfl rfl rfl rfl ?_; intro w4 hC4 hg4)
              | go_in)
            go_roundg (m - (k + 1))
            case measure => omega
            case rel =>
              have hbel3 := hbel.grown hg3 hbel.size (fun j hj => by cases hj; exact Nat.le_refl _)
              refine ⟨k + 1, by omega, rfl, by go_num, ?_, hbel3.grown hg4 hbel3.size (fun j hj => by cases hj; exact Nat.le_refl _)⟩
              rw [← HY.out]
              exact hC4
          · have e0 : v = 0 := by omega
            subst e0
            have HY := hide (cN_no (n := n) (F := F) (k := k) (by omega))
            clear hv hb
            go_wp2_with (first
              | (at_lookup; refine wp_look wr w2.heap.size (n + 2 * k) (cN n F k) (F k).rd 0 hC HV wf0 rfl _ _ rfl rfl rfl ?_)
              | go_in)
            go_roundg (m - (k + 1))
            case measure => omega
            case rel =>
              refine ⟨k + 1, by omega, rfl, by go_num, ?_, hbel⟩
              rw [← HY.out]
              obtain ⟨D, h1, h2⟩ := hC.out
              exact ⟨D, h1.mono (by omega), h2⟩
        · have e : m = k := by omega
          subst e
          have HRD : Hid (Reads n g w2.heap.size (n + 2 * m) f (cN n F m) w2 wr) := ⟨fun i hi => lat hbel (HC.out i hi), hC.out, hbel⟩
          clear hC hbel HC
          go_wp2
          go_loopg [12] n (fun gg i wr3 => ∃ p : Nat, p ≤ n ∧ gg = n - p ∧ i = .int .i64 p ∧ Hid (Reads n g w2.heap.size (n + 2 * m) f (cN n F m) w2 wr3) ∧ Hid (p < n → ∀ q, q < p → f q < f p))
          case atStart => exact ⟨0, Nat.zero_le _, rfl, rfl, HRD, fun _ q hq => absurd hq (Nat.not_lt_zero _)⟩
          case round =>
            clear HRD
            obtain ⟨p, hpn, rfl, rfl, HRD, HP⟩ := hrel
            by_cases hp : p < n
            · have hpz : (p : Int) < (n : Int) := by omega
              go_wp2
              go_loopg [13] (n - (p + 1)) (fun gg j wr4 => ∃ t : Nat, p < t ∧ t ≤ n ∧ gg = n - t ∧ j = .int .i64 t ∧ Hid (Reads n g w2.heap.size (n + 2 * m) f (cN n F m) w2 wr4) ∧ Hid (∀ q, p ≤ q → q < t → f q = f p))
              case atStart => exact ⟨p + 1, by omega, by omega, rfl, by go_num, HRD, fun q h1 h2 => by rw [show q = p by omega]⟩
              case round =>
                clear HRD
                obtain ⟨t, hpt, htn, rfl, rfl, HRD, HQ⟩ := hrel
                have cp := HRD.out.1 p hp
                by_cases htn' : t < n
                · have htz : (t : Int) < (n : Int) := by omega
                  have ct := HRD.out.1 t htn'
                  by_cases hq : f t = f p
                  · have hqb : (f t == f p) = true := by simpa using hq
                    have HQ2 : Hid (∀ q, p ≤ q → q < t + 1 → f q = f p) := fun q h1 h2 => by
                      by_cases e : q = t
                      · rw [e]; exact hq
                      · exact HQ.out q h1 (by omega)
                    clear hq HQ
                    go_wp2_with fail
                    go_quiet (fail)
                    go_wp2
                    go_roundg (n - (t + 1))
                    case measure => omega
                    case rel => exact ⟨t + 1, by omega, by omega, rfl, by go_num, HRD.out.drewN nq, HQ2⟩
                  · have hqb : (f t == f p) = false := by simpa using hq
                    have hrl := HL.out p t hpt htn (HP.out hp) HQ.out (fun _ => hq)
                    have HVV := hide hrl.1
                    have HNX : Hid (t < n → ∀ q, q < t → f q < f t) := fun h => (hrl.2 h).2
                    have hlt : decide (f t < f p) = false := decide_eq_false (by have := (hrl.2 htn').1; omega)
                    have wfp := HU.out p hp
                    clear hrl hq HQ
                    go_wp2_with fail
                    go_quiet (fail)
                    go_wp2_with fail
                    have HRD2 := hide (HRD.out.drewN nq)
                    clear HRD cp ct
                    revert nq
                    intro nq1 HRD2
                    generalize wr.drewN nq1 = W2 at HRD2 ⊢
                    have cp := HRD2.out.1 p hp
                    have ct := HRD2.out.1 t htn'
                    go_quiet (fail)
                    have HRD3 := hide (HRD2.out.drewN nq)
                    clear HRD2 cp ct
                    generalize W2.drewN nq = W3 at HRD3 ⊢
                    have cp := HRD3.out.1 p hp
                    have HCC := hide HRD3.out.2.1
                    go_wp2_with (first
                      | (at_lookup; refine wp_look W3 w2.heap.size (n + 2 * m) (cN n F m) (f p) ((t : Int) - (p : Int)) HCC HVV wfp rfl _ _ rfl rfl rfl ?_)
                      | go_in)
                    go_roundg (n - t)
                    case measure => omega
                    case rel => exact ⟨t, htn, rfl, rfl, HRD3, HNX⟩
                · have e : n = t := by omega
                  subst e
                  have hrl := HL.out p n hpt htn (HP.out hp) HQ.out (fun h => absurd h htn')
                  have HVV := hide hrl.1
                  have wfp := HU.out p hp
                  clear hrl HQ
                  go_wp2_with fail
                  go_quiet (fail)
                  go_wp2_with fail
                  have HRD2 := hide (HRD.out.drewN nq)
                  clear HRD cp
                  revert nq
                  intro nq1 HRD2
                  generalize wr.drewN nq1 = W2 at HRD2 ⊢
                  have cp := HRD2.out.1 p hp
                  go_quiet (fail)
                  have HRD3 := hide (HRD2.out.drewN nq)
                  clear HRD2 cp
                  generalize W2.drewN nq = W3 at HRD3 ⊢
                  have cp := HRD3.out.1 p hp
                  have HCC := hide HRD3.out.2.1
                  go_wp2_with (first
                    | (at_lookup; refine wp_look W3 w2.heap.size (n + 2 * m) (cN n F m) (f p) ((n : Int) - (p : Int)) HCC HVV wfp rfl _ _ rfl rfl rfl ?_)
                    | go_in)
                  go_roundg (n - n)
                  case measure => omega
                  case rel => exact ⟨n, htn, rfl, rfl, HRD3, fun h => absurd h (Nat.lt_irrefl _)⟩
            · have e : n = p := by omega
              subst e
              have HBB := hide (HB.out.trans (HRD.out.2.2.mono HB.out.size))
              go_wp2
              go_ret
              exact ⟨rfl, HBB.out⟩
end Go.Proofs.Qxb6604102a
