/-
  'Rows.FnMergeMarksWholeSaid', PROVED: the guide's frame for a law, at this function's number and types (two slices of structs); the walks are ours.
-/
import Derived.Test.Qxb6604243aRows
import Derived.Test.Qxb6604243aMergeMain
import Derived.Test.Qxb6604243aOpenS
import Derived.WalkKit
import Derived.ProofKit
import Derived.OpenShut
import Derived.ShutString
namespace Go.Proofs.Qxb6604243a.fnMergeMarksWhole
open Go.ChangeShapes Go.WideShapes Go.ChangeAt Go.RowKit
open Go.ChangeMaps (open_string shut_string)

theorem own : ownKnob Try.prog.godebug = none := by kernel_rfl
theorem laidOut : laidOutB Try.prog = true := by kernel_rfl

set_option maxRecDepth 100000 in
set_option maxHeartbeats 4000000 in
theorem walk (ad nd : Option Addr) (m mc b off n nc b' off' : Nat) (F F' : Nat → Mk) (w : World) (hm : MksAt w ad m b off F) (hn : MksAt w nd n b' off' F') :
    Calls Try.prog 6 #[.slice ad m mc, .slice nd n nc] w (GoodM w) := by
  by_cases c1 : m ≤ 4096
  rotate_left
  · have HM := hide hm
    have HN := hide hn
    clear hm hn
    go_enter Try.func6, Try.ntmps6
    go_wp2_with fail
    refine (bytes23 ad nd m mc b off n nc b' off' F F' w HM.out HN.out).mono ?_
    rintro e w0 ⟨⟨r, rfl⟩, rfl⟩
    cases r
    all_goals
      go_wp2
      go_ret
      exact ⟨rfl, Below.refl _ _⟩
  by_cases c2 : n ≤ 4096
  rotate_left
  · have HM := hide hm
    have HN := hide hn
    clear hm hn
    go_enter Try.func6, Try.ntmps6
    go_wp2_with fail
    refine (bytes23 ad nd m mc b off n nc b' off' F F' w HM.out HN.out).mono ?_
    rintro e w0 ⟨⟨r, rfl⟩, rfl⟩
    cases r
    all_goals
      go_wp2
      go_ret
      exact ⟨rfl, Below.refl _ _⟩
  exact merge_main ad nd m mc b off n nc b' off' F F' w hm hn c1 c2

/-! ### THE ROW's STEP -/
set_option maxRecDepth 100000 in
theorem lifted (os : Os) (started : os.Started) (H : Type) (enc : TypeId × Value → H) :
    ReturnsInHanded {} Try.checked os 6 .any (Rows.fnMergeMarksWholeSpec.pre6 enc Try.prog Try.f6 Rows.fnMergeMarksWholeRow.domain false) (Rows.fnMergeMarksWholeSpec.post enc Try.prog Try.f6 false true false false) := by
  refine returnsInHanded_of_change (C := Try.checked) own started (by kernel_rfl) Try.func6
    (ChangeSpec.witness6 (enc := enc) (C := Try.checked) false ⟨#[], #[.slice none 0 0, .slice none 0 0], []⟩ 8 (by kernel_rfl) (by kernel_rfl) (by kernel_rfl) (by kernel_rfl)) ?_
  intro W base args ds gs before hval0 hW hcnd _
  have hval : ∀ (j : Nat) t v, Try.f6.params[j]? = some t → args[j]? = some v → Value.okWide Try.prog W .any base t v := hval0
  have hW' := hW
  obtain ⟨p, q, hA0, hV, rfl, hfz, hnd⟩ := hW
  have hA : DataW.TrodAll enc Try.prog W 0 (fun _ => true) true Try.f6.params.toList args.toList ds p := hA0
  rw [Try.params6] at hA hval
  obtain ⟨v0, vs0, d0, ds0, p0, q0, hargs, rfl, rfl, h0, r0⟩ := trodAll_cons hA
  obtain ⟨v1, vs1, d1, ds1, p1, q1, rfl, rfl, rfl, h1, r1⟩ := trodAll_cons r0
  obtain ⟨rfl, rfl, rfl⟩ := trodAll_nil r1
  obtain rfl : args = #[v0, v1] := by cases args; simp_all
  obtain ⟨rfl, rfl⟩ := trodVars_none hV
  have k0 := h0
  have k1 := h1
  have lt0 : ∀ x ∈ p0, x.block < W.heap.size := by obtain ⟨m, hm⟩ := k0; exact DataW.trod_lt m _ _ _ hm
  have lt1 : ∀ x ∈ p1, x.block < W.heap.size := by obtain ⟨m, hm⟩ := k1; exact DataW.trod_lt m _ _ _ hm
  obtain ⟨ad, m, mc, b, off, F, rfl, hM⟩ := open_sms (hval 0 65 v0 rfl rfl) h0
  obtain ⟨nd, n, nc, b', off', F', rfl, hN⟩ := open_sms (hval 1 65 v1 rfl rfl) h1
  clear hA0 hval0
  refine (walk ad nd m mc b off n nc b' off' F F' W hM hN).mono fun e W' ⟨he, bel⟩ => ?_
  subst he
  exact ⟨_, rfl, _, _, _, [], _, [], hW', trodAll_mk1 (shut_bool Try.underlying4 _), (trodAll_cons_mk (Below.trod laidOut (by kernel_rfl) (of_decide_eq_true (by kernel_rfl)) k0 bel lt0) (trodAll_cons_mk (Below.trod laidOut (by kernel_rfl) (of_decide_eq_true (by kernel_rfl)) k1 bel lt1) trodAll_mk0)), rfl, bel.frame _, fun h => by cases h⟩

theorem over : Rows.fnMergeMarksWholeRow.holds Try.pinned (OpenSpec.ofChange Rows.fnMergeMarksWholeSpec) :=
  OpenClaim.holds_of_wide 6 Try.f6 rfl rfl rfl rfl rfl rfl rfl ⟨rfl, rfl, rfl, rfl, rfl⟩ rfl rfl rfl rfl rfl (by kernel_rfl) Try.func6 (by kernel_rfl)
    (of_decide_eq_true (by kernel_rfl)) (by unfold Func.isWrapper; first | (rw [if_pos (by decide +kernel)]; kernel_rfl) | (rw [if_neg (by decide +kernel)]; exact ⟨rfl, rfl⟩))
    (fun os started H enc _ => lifted os started H enc)

theorem proved : Rows.FnMergeMarksWholeSaid := over
end Go.Proofs.Qxb6604243a.fnMergeMarksWhole

theorem Go.Proofs.Qxb6604243a.fnMergeMarksWhole_proved : Go.Proofs.Qxb6604243a.Rows.FnMergeMarksWholeSaid := Go.Proofs.Qxb6604243a.fnMergeMarksWhole.proved
#print axioms Go.Proofs.Qxb6604243a.fnMergeMarksWhole_proved
