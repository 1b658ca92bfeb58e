/-
  'Rows.FnMembersMultisetSortedSaid', PROVED: the guide's frame for a law, at this function's number and types; the walks are ours, the library's sort turned from the guide's worked walks.
-/
import Derived.Test.Qxb6604102aRows
import Derived.Test.Qxb6604102aMulti
import Derived.Test.Qxb6604102aOpenR
import Derived.WalkKit
import Derived.ProofKit
import Derived.OpenShut
import Derived.ShutString
namespace Go.Proofs.Qxb6604102a.fnMembersMultisetSorted
open Go.ChangeShapes Go.WideShapes Go.ChangeAt Go.RowKit
open Go.ChangeMaps (open_string shut_string)

theorem own : ownKnob Try.prog.godebug = none := by kernel_rfl
theorem laidOut : laidOutB Try.prog = true := by kernel_rfl

set_option maxHeartbeats 4000000 in
theorem walk (a0 : Int) (ad : Option Addr) (m cap b off : Nat) (F : Nat → Rp) (w : World) (hz : RpAt w ad m b off F) :
    Calls Try.prog 5 #[.int .i64 a0, .slice ad m cap] w (Good w) := by
  by_cases c0 : m ≤ 1048576
  rotate_left
  · clear hz
    go_enter Try.func5, Try.ntmps5
    go_wp2_with fail
    refine (bytes11_no a0 ad m cap w c0).mono ?_
    rintro e w0 ⟨rfl, rfl⟩
    go_wp2
    go_ret
    exact ⟨rfl, Below.refl _ _⟩
  by_cases c1 : m ≤ 65536
  rotate_left
  · clear hz
    go_enter Try.func5, Try.ntmps5
    go_wp2_with fail
    refine (bytes11_yes a0 ad m cap w c0).mono ?_
    rintro e w0 ⟨rfl, rfl⟩
    go_wp2
    go_ret
    exact ⟨rfl, Below.refl _ _⟩
  by_cases c2 : a0 < 0
  · clear hz
    go_enter Try.func5, Try.ntmps5
    go_wp2_with fail
    refine (bytes11_yes a0 ad m cap w c0).mono ?_
    rintro e w0 ⟨rfl, rfl⟩
    go_wp2
    go_ret
    exact ⟨rfl, Below.refl _ _⟩
  by_cases c3 : 65536 < a0
  · clear hz
    go_enter Try.func5, Try.ntmps5
    go_wp2_with fail
    refine (bytes11_yes a0 ad m cap w c0).mono ?_
    rintro e w0 ⟨rfl, rfl⟩
    go_wp2
    go_ret
    exact ⟨rfl, Below.refl _ _⟩
  obtain ⟨n, rfl⟩ := Int.eq_ofNat_of_zero_le (by omega : 0 ≤ a0)
  exact multi_main n m cap b off ad F w c1 (by omega) hz

/-! ### THE ROW's STEP -/
set_option maxRecDepth 100000 in
theorem lifted (os : Os) (started : os.Started) (H : Type) (enc : TypeId × Value → H) :
    ReturnsInHanded {} Try.checked os 5 .any (Rows.fnMembersMultisetSortedSpec.pre6 enc Try.prog Try.f5 Rows.fnMembersMultisetSortedRow.domain false) (Rows.fnMembersMultisetSortedSpec.post enc Try.prog Try.f5 false true false false) := by
  refine returnsInHanded_of_change (C := Try.checked) own started (by kernel_rfl) Try.func5
    (ChangeSpec.witness6 (enc := enc) (C := Try.checked) false ⟨#[], #[.int .i64 0, .slice none 0 0], []⟩ 8 (by kernel_rfl) (by kernel_rfl) (by kernel_rfl) (by kernel_rfl)) ?_
  intro W base args ds gs before hval0 hW hcnd _
  have hval : ∀ (j : Nat) t v, Try.f5.params[j]? = some t → args[j]? = some v → Value.okWide Try.prog W .any base t v := hval0
  have hW' := hW
  obtain ⟨p, q, hA0, hV, rfl, hfz, hnd⟩ := hW
  have hA : DataW.TrodAll enc Try.prog W 0 (fun _ => true) true Try.f5.params.toList args.toList ds p := hA0
  rw [Try.params5] at hA hval
  obtain ⟨v0, vs0, d0, ds0, p0, q0, hargs, rfl, rfl, h0, r0⟩ := trodAll_cons hA
  obtain ⟨v1, vs1, d1, ds1, p1, q1, rfl, rfl, rfl, h1, r1⟩ := trodAll_cons r0
  obtain ⟨rfl, rfl, rfl⟩ := trodAll_nil r1
  obtain rfl : args = #[v0, v1] := by cases args; simp_all
  obtain ⟨rfl, rfl⟩ := trodVars_none hV
  obtain ⟨a0, rfl, rfl, rfl, w0⟩ := open_int Try.underlying3 (hval 0 3 v0 rfl rfl) h0
  have k1 := h1
  have lt1 : ∀ x ∈ p1, x.block < W.heap.size := by obtain ⟨m, hm⟩ := k1; exact DataW.trod_lt m _ _ _ hm
  obtain ⟨ad, m, cap, b, off, F, rfl, hz⟩ := open_rps (hval 1 35 v1 rfl rfl) h1
  clear hA0 hval0
  refine (walk a0 ad m cap b off F W hz).mono fun e W' ⟨he, bel⟩ => ?_
  subst he
  exact ⟨_, rfl, _, _, _, [], _, [], hW', trodAll_mk1 (shut_bool Try.underlying4 _), (trodAll_cons_mk (shut_int Try.underlying3 w0) (trodAll_cons_mk (Below.trod laidOut (by kernel_rfl) (of_decide_eq_true (by kernel_rfl)) k1 bel lt1) trodAll_mk0)), rfl, bel.frame _, fun h => by cases h⟩

theorem over : Rows.fnMembersMultisetSortedRow.holds Try.pinned (OpenSpec.ofChange Rows.fnMembersMultisetSortedSpec) :=
  OpenClaim.holds_of_wide 5 Try.f5 rfl rfl rfl rfl rfl rfl rfl ⟨rfl, rfl, rfl, rfl, rfl⟩ rfl rfl rfl rfl rfl (by kernel_rfl) Try.func5 (by kernel_rfl)
    (of_decide_eq_true (by kernel_rfl)) (by unfold Func.isWrapper; first | (rw [if_pos (by decide +kernel)]; kernel_rfl) | (rw [if_neg (by decide +kernel)]; exact ⟨rfl, rfl⟩))
    (fun os started H enc _ => lifted os started H enc)

theorem proved : Rows.FnMembersMultisetSortedSaid := over
end Go.Proofs.Qxb6604102a.fnMembersMultisetSorted

theorem Go.Proofs.Qxb6604102a.fnMembersMultisetSorted_proved : Go.Proofs.Qxb6604102a.Rows.FnMembersMultisetSortedSaid := Go.Proofs.Qxb6604102a.fnMembersMultisetSorted.proved
#print axioms Go.Proofs.Qxb6604102a.fnMembersMultisetSorted_proved
