/-
  'Rows.FnInitialOrderListsMembersIffFitsSaid', PROVED: the guide's frame for a law over integers; the walk is ours (Qxb6604102aLists: the callees).
-/
import Derived.Test.Qxb6604102aRows
import Derived.Test.Qxb6604102aLists
import Derived.WalkKit
import Derived.ProofKit
import Derived.OpenShut
import Derived.ShutString
namespace Go.Proofs.Qxb6604102a.fnInitialOrderListsMembersIffFits
open Go.ChangeShapes Go.WideShapes Go.ChangeAt Go.RowKit
open Go.ChangeMaps (open_string shut_string)
set_option linter.unusedVariables false      -- a walk need not use every 'w<i>' (that an integer argument fits its kind)

theorem own : ownKnob Try.prog.godebug = none := by kernel_rfl

/-! ### STEP 1: THE WALK -/
theorem ok_init (n l : Nat) : Ok (fun i => (i : Int) + 1) l n ↔ n ≤ l := by
  constructor
  · intro h
    by_cases h0 : n = 0
    · omega
    · have := (h (n - 1) (by omega)).2.1
      dsimp only at this
      omega
  · intro h i hi
    dsimp only
    exact ⟨by omega, by omega, fun j hj => by omega⟩

/-- What the law leaves. -/
def Good (w : World) (e : Ending) (w' : World) : Prop := e = .returned (.bool true) ∧ Below w.heap.size w w'

set_option maxHeartbeats 1000000 in
theorem walk (a0 : Int) (a1 : Int) (w0 : (Lit.int .i64 a0).wf = true) (w1 : (Lit.int .i64 a1).wf = true) (w : World) :
    Calls Try.prog 4 #[.int .i64 a0, .int .i64 a1] w (Good w) := by
  clear w0 w1
  by_cases c1 : a0 < 0
  · go_enter Try.func4, Try.ntmps4
    go_wp2
    go_ret
    exact ⟨rfl, Below.refl _ _⟩
  by_cases c2 : 65536 < a0
  · go_enter Try.func4, Try.ntmps4
    go_wp2
    go_ret
    exact ⟨rfl, Below.refl _ _⟩
  by_cases c3 : a1 < 0
  · go_enter Try.func4, Try.ntmps4
    go_wp2
    go_ret
    exact ⟨rfl, Below.refl _ _⟩
  by_cases c4 : 65536 < a1
  · go_enter Try.func4, Try.ntmps4
    go_wp2
    go_ret
    exact ⟨rfl, Below.refl _ _⟩
  obtain ⟨n, rfl⟩ := Int.eq_ofNat_of_zero_le (by omega : 0 ≤ a0)
  obtain ⟨l, rfl⟩ := Int.eq_ofNat_of_zero_le (by omega : 0 ≤ a1)
  go_enter Try.func4, Try.ntmps4
  go_wp2_with fail
  refine (init_any n _ (by omega)).mono ?_
  rintro e w1 ⟨g, hg, rfl, hrow, hb⟩
  go_wp2_with fail
  refine (zzlists_any 0 0 (some ⟨g, 0, none⟩) g 0 n n (fun i => (i : Int) + 1) n l w1 (by omega) (by omega) (fun _ => rfl) (fun i hi => by rw [Nat.zero_add]; exact hrow.cell hi) (fun i hi => by omega)).mono ?_
  rintro e w2 ⟨r, rfl, hr, hb2⟩
  have hr' : r = decide ((n : Int) ≤ (l : Int)) := by
    rw [Bool.eq_iff_iff, hr, ok_init, decide_eq_true_eq]
    omega
  subst hr'
  clear hr hrow
  go_wp2
  go_ret
  exact ⟨by simp, hb.trans (hb2.mono hb.size)⟩

/-! ### THE ROW's STEP: WRITTEN OUT: LEAVE IT -/
set_option maxRecDepth 100000 in
theorem lifted (os : Os) (started : os.Started) (H : Type) (enc : TypeId × Value → H) :
    ReturnsInHanded {} Try.checked os 4 .any (Rows.fnInitialOrderListsMembersIffFitsSpec.pre6 enc Try.prog Try.f4 Rows.fnInitialOrderListsMembersIffFitsRow.domain false) (Rows.fnInitialOrderListsMembersIffFitsSpec.post enc Try.prog Try.f4 false true false false) := by
  refine returnsInHanded_of_change (C := Try.checked) own started (by kernel_rfl) Try.func4
    (ChangeSpec.witness6 (enc := enc) (C := Try.checked) false ⟨#[], #[.int .i64 0, .int .i64 0], []⟩ 8 (by kernel_rfl) (by kernel_rfl) (by kernel_rfl) (by kernel_rfl)) ?_
  intro W base args ds gs before hval0 hW hcnd _
  have hval : ∀ (j : Nat) t v, Try.f4.params[j]? = some t → args[j]? = some v → Value.okWide Try.prog W .any base t v := hval0
  have hW' := hW
  obtain ⟨p, q, hA0, hV, rfl, hfz, hnd⟩ := hW
  have hA : DataW.TrodAll enc Try.prog W 0 (fun _ => true) true Try.f4.params.toList args.toList ds p := hA0
  rw [Try.params4] at hA hval
  obtain ⟨v0, vs0, d0, ds0, p0, q0, hargs, rfl, rfl, h0, r0⟩ := trodAll_cons hA
  obtain ⟨v1, vs1, d1, ds1, p1, q1, rfl, rfl, rfl, h1, r1⟩ := trodAll_cons r0
  obtain ⟨rfl, rfl, rfl⟩ := trodAll_nil r1
  obtain rfl : args = #[v0, v1] := by cases args; simp_all
  obtain ⟨rfl, rfl⟩ := trodVars_none hV
  obtain ⟨a0, rfl, rfl, rfl, w0⟩ := open_int Try.underlying3 (hval 0 3 v0 rfl rfl) h0
  obtain ⟨a1, rfl, rfl, rfl, w1⟩ := open_int Try.underlying3 (hval 1 3 v1 rfl rfl) h1
  clear hA0 hval0
  simp only [List.append_nil] at hW'
  refine (walk a0 a1 w0 w1 W).mono fun e W' ⟨he, bel⟩ => ?_
  subst he
  exact ⟨_, rfl, _, _, _, [], _, [], hW', trodAll_mk1 (shut_bool Try.underlying4 _), (trodAll_cons_mk (shut_int Try.underlying3 w0) (trodAll_cons_mk (shut_int Try.underlying3 w1) trodAll_mk0)), rfl, bel.frame _, fun h => by cases h⟩

theorem over : Rows.fnInitialOrderListsMembersIffFitsRow.holds Try.pinned (OpenSpec.ofChange Rows.fnInitialOrderListsMembersIffFitsSpec) :=
  OpenClaim.holds_of_wide 4 Try.f4 rfl rfl rfl rfl rfl rfl rfl ⟨rfl, rfl, rfl, rfl, rfl⟩ rfl rfl rfl rfl rfl (by kernel_rfl) Try.func4 (by kernel_rfl)
    (of_decide_eq_true (by kernel_rfl)) (by unfold Func.isWrapper; first | (rw [if_pos (by decide +kernel)]; kernel_rfl) | (rw [if_neg (by decide +kernel)]; exact ⟨rfl, rfl⟩))
    (fun os started H enc _ => lifted os started H enc)

/-- ████ THE STATEMENT ████ -/
theorem proved : Rows.FnInitialOrderListsMembersIffFitsSaid :=
  over
#print axioms proved
end Go.Proofs.Qxb6604102a.fnInitialOrderListsMembersIffFits

theorem Go.Proofs.Qxb6604102a.fnInitialOrderListsMembersIffFits_proved : Go.Proofs.Qxb6604102a.Rows.FnInitialOrderListsMembersIffFitsSaid := Go.Proofs.Qxb6604102a.fnInitialOrderListsMembersIffFits.proved
