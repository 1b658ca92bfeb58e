/-
  'Rows.FnMembersFreshSparesListMembersSaid', PROVED: the guide's frame for a law, at this function's number and types; the walks are ours, the library's sort turned from the guide's worked walks.
-/
import Derived.Test.Qxb6604102aRows
import Derived.Test.Qxb6604102aFresh
import Derived.Test.Qxb6604102aOpenR
import Derived.WalkKit
import Derived.ProofKit
import Derived.OpenShut
import Derived.ShutString
namespace Go.Proofs.Qxb6604102a.fnMembersFreshSparesListMembers
open Go.ChangeShapes Go.WideShapes Go.ChangeAt Go.RowKit
open Go.ChangeMaps (open_string shut_string)

theorem own : ownKnob Try.prog.godebug = none := by kernel_rfl
theorem laidOut : laidOutB Try.prog = true := by kernel_rfl

set_option maxHeartbeats 4000000 in
theorem walk (a0 a1 : Int) (ad : Option Addr) (m cap b off : Nat) (F : Nat → Rp) (w : World) (hz : RpAt w ad m b off F) :
    Calls Try.prog 6 #[.int .i64 a0, .int .i64 a1, .slice ad m cap] w (Good w) := by
  by_cases c0 : m ≤ 1048576
  rotate_left
  · clear hz
    go_enter Try.func6, Try.ntmps6
    go_wp2_with fail
    refine (bytes14_no a0 a1 ad m cap w c0).mono ?_
    rintro e w0 ⟨rfl, rfl⟩
    go_wp2
    go_ret
    exact ⟨rfl, Below.refl _ _⟩
  by_cases c1 : m ≤ 65536
  rotate_left
  · clear hz
    go_enter Try.func6, Try.ntmps6
    go_wp2_with fail
    refine (bytes14_yes a0 a1 ad m cap w c0).mono ?_
    rintro e w0 ⟨rfl, rfl⟩
    go_wp2
    go_ret
    exact ⟨rfl, Below.refl _ _⟩
  by_cases c2 : a0 < 0
  · clear hz
    go_enter Try.func6, Try.ntmps6
    go_wp2_with fail
    refine (bytes14_yes a0 a1 ad m cap w c0).mono ?_
    rintro e w0 ⟨rfl, rfl⟩
    go_wp2
    go_ret
    exact ⟨rfl, Below.refl _ _⟩
  by_cases c3 : 65536 < a0
  · clear hz
    go_enter Try.func6, Try.ntmps6
    go_wp2_with fail
    refine (bytes14_yes a0 a1 ad m cap w c0).mono ?_
    rintro e w0 ⟨rfl, rfl⟩
    go_wp2
    go_ret
    exact ⟨rfl, Below.refl _ _⟩
  by_cases c4 : a1 < a0
  · clear hz
    go_enter Try.func6, Try.ntmps6
    go_wp2_with fail
    refine (bytes14_yes a0 a1 ad m cap w c0).mono ?_
    rintro e w0 ⟨rfl, rfl⟩
    go_wp2
    go_ret
    exact ⟨rfl, Below.refl _ _⟩
  by_cases c5 : 65536 < a1
  · clear hz
    go_enter Try.func6, Try.ntmps6
    go_wp2_with fail
    refine (bytes14_yes a0 a1 ad m cap w c0).mono ?_
    rintro e w0 ⟨rfl, rfl⟩
    go_wp2
    go_ret
    exact ⟨rfl, Below.refl _ _⟩
  obtain ⟨n, rfl⟩ := Int.eq_ofNat_of_zero_le (by omega : 0 ≤ a0)
  obtain ⟨L, rfl⟩ := Int.eq_ofNat_of_zero_le (by omega : 0 ≤ a1)
  exact fresh_main n L m cap b off ad F w c1 (by omega) (by omega) hz

/-! ### THE ROW's STEP -/
set_option maxRecDepth 100000 in
theorem lifted (os : Os) (started : os.Started) (H : Type) (enc : TypeId × Value → H) :
    ReturnsInHanded {} Try.checked os 6 .any (Rows.fnMembersFreshSparesListMembersSpec.pre6 enc Try.prog Try.f6 Rows.fnMembersFreshSparesListMembersRow.domain false) (Rows.fnMembersFreshSparesListMembersSpec.post enc Try.prog Try.f6 false true false false) := by
  refine returnsInHanded_of_change (C := Try.checked) own started (by kernel_rfl) Try.func6
    (ChangeSpec.witness6 (enc := enc) (C := Try.checked) false ⟨#[], #[.int .i64 0, .int .i64 0, .slice none 0 0], []⟩ 8 (by kernel_rfl) (by kernel_rfl) (by kernel_rfl) (by kernel_rfl)) ?_
  intro W base args ds gs before hval0 hW hcnd _
  have hval : ∀ (j : Nat) t v, Try.f6.params[j]? = some t → args[j]? = some v → Value.okWide Try.prog W .any base t v := hval0
  have hW' := hW
  obtain ⟨p, q, hA0, hV, rfl, hfz, hnd⟩ := hW
  have hA : DataW.TrodAll enc Try.prog W 0 (fun _ => true) true Try.f6.params.toList args.toList ds p := hA0
  rw [Try.params6] at hA hval
  obtain ⟨v0, vs0, d0, ds0, p0, q0, hargs, rfl, rfl, h0, r0⟩ := trodAll_cons hA
  obtain ⟨v1, vs1, d1, ds1, p1, q1, rfl, rfl, rfl, h1, r1⟩ := trodAll_cons r0
  obtain ⟨v2, vs2, d2, ds2, p2, q2, rfl, rfl, rfl, h2, r2⟩ := trodAll_cons r1
  obtain ⟨rfl, rfl, rfl⟩ := trodAll_nil r2
  obtain rfl : args = #[v0, v1, v2] := by cases args; simp_all
  obtain ⟨rfl, rfl⟩ := trodVars_none hV
  obtain ⟨a0, rfl, rfl, rfl, w0⟩ := open_int Try.underlying3 (hval 0 3 v0 rfl rfl) h0
  obtain ⟨a1, rfl, rfl, rfl, w1⟩ := open_int Try.underlying3 (hval 1 3 v1 rfl rfl) h1
  have k2 := h2
  have lt2 : ∀ x ∈ p2, x.block < W.heap.size := by obtain ⟨m, hm⟩ := k2; exact DataW.trod_lt m _ _ _ hm
  obtain ⟨ad, m, cap, b, off, F, rfl, hz⟩ := open_rps (hval 2 35 v2 rfl rfl) h2
  clear hA0 hval0
  refine (walk a0 a1 ad m cap b off F W hz).mono fun e W' ⟨he, bel⟩ => ?_
  subst he
  exact ⟨_, rfl, _, _, _, [], _, [], hW', trodAll_mk1 (shut_bool Try.underlying4 _), (trodAll_cons_mk (shut_int Try.underlying3 w0) (trodAll_cons_mk (shut_int Try.underlying3 w1) (trodAll_cons_mk (Below.trod laidOut (by kernel_rfl) (of_decide_eq_true (by kernel_rfl)) k2 bel lt2) trodAll_mk0))), rfl, bel.frame _, fun h => by cases h⟩

theorem over : Rows.fnMembersFreshSparesListMembersRow.holds Try.pinned (OpenSpec.ofChange Rows.fnMembersFreshSparesListMembersSpec) :=
  OpenClaim.holds_of_wide 6 Try.f6 rfl rfl rfl rfl rfl rfl rfl ⟨rfl, rfl, rfl, rfl, rfl⟩ rfl rfl rfl rfl rfl (by kernel_rfl) Try.func6 (by kernel_rfl)
    (of_decide_eq_true (by kernel_rfl)) (by unfold Func.isWrapper; first | (rw [if_pos (by decide +kernel)]; kernel_rfl) | (rw [if_neg (by decide +kernel)]; exact ⟨rfl, rfl⟩))
    (fun os started H enc _ => lifted os started H enc)

theorem proved : Rows.FnMembersFreshSparesListMembersSaid := over
end Go.Proofs.Qxb6604102a.fnMembersFreshSparesListMembers

theorem Go.Proofs.Qxb6604102a.fnMembersFreshSparesListMembers_proved : Go.Proofs.Qxb6604102a.Rows.FnMembersFreshSparesListMembersSaid := Go.Proofs.Qxb6604102a.fnMembersFreshSparesListMembers.proved
#print axioms Go.Proofs.Qxb6604102a.fnMembersFreshSparesListMembers_proved
