/-
  'Rows.FnNewEntryGivesBackContentSaid', PROVED: the guide's frame for a law, at this function's number and types (integers, a slice of bytes, a string, a slice of structs); the walks are ours.
-/
import Derived.Test.Qxb6604243aRows
import Derived.Test.Qxb6604243aNewMain
import Derived.Test.Qxb6604243aOpenM
import Derived.WalkKit
import Derived.ProofKit
import Derived.OpenShut
import Derived.ShutString
namespace Go.Proofs.Qxb6604243a.fnNewEntryGivesBackContent
open Go.ChangeShapes Go.WideShapes Go.ChangeAt Go.RowKit
open Go.ChangeMaps (open_string shut_string)

theorem own : ownKnob Try.prog.godebug = none := by kernel_rfl
theorem laidOut : laidOutB Try.prog = true := by kernel_rfl

set_option maxRecDepth 100000 in
set_option maxHeartbeats 4000000 in
theorem walk (term kind seq cl : Int) (ad md : Option Addr) (n cap m mc b off mb mo : Nat) (sid : ByteArray) (Z : Nat → Int) (I D : Nat → Int) (A : Nat → ByteArray) (V : Nat → Bool) (w : World)
    (hz : BytesAt w ad n b off Z) (hM : MembersAt w md m mb mo I A V D) :
    Calls Try.prog 5 #[.int .u64 term, .int .u8 kind, .slice ad n cap, .string sid, .int .u64 seq, .slice md m mc, .int .u64 cl] w (GoodN w) := by
  by_cases c1 : n ≤ 1048576
  rotate_left
  · have HM := hide hM
    clear hz hM
    go_enter Try.func5, Try.ntmps5
    go_wp2_with fail
    refine (bytes13 term kind seq cl ad md n cap m mc mb mo sid I D A V w HM.out).mono ?_
    rintro e w0 ⟨⟨r, rfl⟩, rfl⟩
    cases r
    all_goals
      go_wp2
      go_ret
      exact ⟨rfl, Below.refl _ _⟩
  by_cases c2 : sid.size ≤ 1048576
  rotate_left
  · have HM := hide hM
    clear hz hM
    go_enter Try.func5, Try.ntmps5
    go_wp2_with fail
    refine (bytes13 term kind seq cl ad md n cap m mc mb mo sid I D A V w HM.out).mono ?_
    rintro e w0 ⟨⟨r, rfl⟩, rfl⟩
    cases r
    all_goals
      go_wp2
      go_ret
      exact ⟨rfl, Below.refl _ _⟩
  by_cases c3 : m ≤ 4096
  rotate_left
  · have HM := hide hM
    clear hz hM
    go_enter Try.func5, Try.ntmps5
    go_wp2_with fail
    refine (bytes13 term kind seq cl ad md n cap m mc mb mo sid I D A V w HM.out).mono ?_
    rintro e w0 ⟨⟨r, rfl⟩, rfl⟩
    cases r
    all_goals
      go_wp2
      go_ret
      exact ⟨rfl, Below.refl _ _⟩
  exact new_main term kind seq cl ad md n cap m mc b off mb mo sid Z I D A V w c1 c2 c3 hz hM

/-! ### THE ROW's STEP -/
set_option maxRecDepth 100000 in
theorem lifted (os : Os) (started : os.Started) (H : Type) (enc : TypeId × Value → H) :
    ReturnsInHanded {} Try.checked os 5 .any (Rows.fnNewEntryGivesBackContentSpec.pre6 enc Try.prog Try.f5 Rows.fnNewEntryGivesBackContentRow.domain false) (Rows.fnNewEntryGivesBackContentSpec.post enc Try.prog Try.f5 false true false false) := by
  refine returnsInHanded_of_change (C := Try.checked) own started (by kernel_rfl) Try.func5
    (ChangeSpec.witness6 (enc := enc) (C := Try.checked) false ⟨#[], #[.int .u64 0, .int .u8 0, .slice none 0 0, .string ByteArray.empty, .int .u64 0, .slice none 0 0, .int .u64 0], []⟩ 8 (by kernel_rfl) (by kernel_rfl) (by kernel_rfl) (by kernel_rfl)) ?_
  intro W base args ds gs before hval0 hW hcnd _
  have hval : ∀ (j : Nat) t v, Try.f5.params[j]? = some t → args[j]? = some v → Value.okWide Try.prog W .any base t v := hval0
  have hW' := hW
  obtain ⟨p, q, hA0, hV, rfl, hfz, hnd⟩ := hW
  have hA : DataW.TrodAll enc Try.prog W 0 (fun _ => true) true Try.f5.params.toList args.toList ds p := hA0
  rw [Try.params5] at hA hval
  obtain ⟨v0, vs0, d0, ds0, p0, q0, hargs, rfl, rfl, h0, r0⟩ := trodAll_cons hA
  obtain ⟨v1, vs1, d1, ds1, p1, q1, rfl, rfl, rfl, h1, r1⟩ := trodAll_cons r0
  obtain ⟨v2, vs2, d2, ds2, p2, q2, rfl, rfl, rfl, h2, r2⟩ := trodAll_cons r1
  obtain ⟨v3, vs3, d3, ds3, p3, q3, rfl, rfl, rfl, h3, r3⟩ := trodAll_cons r2
  obtain ⟨v4, vs4, d4, ds4, p4, q4, rfl, rfl, rfl, h4, r4⟩ := trodAll_cons r3
  obtain ⟨v5, vs5, d5, ds5, p5, q5, rfl, rfl, rfl, h5, r5⟩ := trodAll_cons r4
  obtain ⟨v6, vs6, d6, ds6, p6, q6, rfl, rfl, rfl, h6, r6⟩ := trodAll_cons r5
  obtain ⟨rfl, rfl, rfl⟩ := trodAll_nil r6
  obtain rfl : args = #[v0, v1, v2, v3, v4, v5, v6] := by cases args; simp_all
  obtain ⟨rfl, rfl⟩ := trodVars_none hV
  have k2 := h2
  have k5 := h5
  have lt2 : ∀ x ∈ p2, x.block < W.heap.size := by obtain ⟨m, hm⟩ := k2; exact DataW.trod_lt m _ _ _ hm
  have lt5 : ∀ x ∈ p5, x.block < W.heap.size := by obtain ⟨m, hm⟩ := k5; exact DataW.trod_lt m _ _ _ hm
  obtain ⟨a0, rfl, rfl, rfl, w0⟩ := open_int Try.underlying22 (hval 0 22 v0 rfl rfl) h0
  obtain ⟨a1, rfl, rfl, rfl, w1⟩ := open_int Try.underlying5 (hval 1 5 v1 rfl rfl) h1
  obtain ⟨ad, n, cap, b, off, Z, rfl, hz⟩ := open_bytes (hval 2 36 v2 rfl rfl) h2
  obtain ⟨s3, rfl, rfl, rfl, w3⟩ := open_string Try.underlying9 (hval 3 9 v3 rfl rfl) h3
  obtain ⟨a4, rfl, rfl, rfl, w4⟩ := open_int Try.underlying22 (hval 4 22 v4 rfl rfl) h4
  obtain ⟨md, m, mc, mb, mo, I, A, V, D, rfl, hM⟩ := open_members (hval 5 37 v5 rfl rfl) h5
  obtain ⟨a6, rfl, rfl, rfl, w6⟩ := open_int Try.underlying22 (hval 6 22 v6 rfl rfl) h6
  clear hA0 hval0
  refine (walk a0 a1 a4 a6 ad md n cap m mc b off mb mo s3 Z I D A V W hz hM).mono fun e W' ⟨he, bel⟩ => ?_
  subst he
  exact ⟨_, rfl, _, _, _, [], _, [], hW', trodAll_mk1 (shut_bool Try.underlying4 _), (trodAll_cons_mk (shut_int Try.underlying22 w0) (trodAll_cons_mk (shut_int Try.underlying5 w1) (trodAll_cons_mk (Below.trod laidOut (by kernel_rfl) (of_decide_eq_true (by kernel_rfl)) k2 bel lt2) (trodAll_cons_mk (shut_string Try.underlying9 w3) (trodAll_cons_mk (shut_int Try.underlying22 w4) (trodAll_cons_mk (Below.trod laidOut (by kernel_rfl) (of_decide_eq_true (by kernel_rfl)) k5 bel lt5) (trodAll_cons_mk (shut_int Try.underlying22 w6) trodAll_mk0))))))), rfl, bel.frame _, fun h => by cases h⟩

theorem over : Rows.fnNewEntryGivesBackContentRow.holds Try.pinned (OpenSpec.ofChange Rows.fnNewEntryGivesBackContentSpec) :=
  OpenClaim.holds_of_wide 5 Try.f5 rfl rfl rfl rfl rfl rfl rfl ⟨rfl, rfl, rfl, rfl, rfl⟩ rfl rfl rfl rfl rfl (by kernel_rfl) Try.func5 (by kernel_rfl)
    (of_decide_eq_true (by kernel_rfl)) (by unfold Func.isWrapper; first | (rw [if_pos (by decide +kernel)]; kernel_rfl) | (rw [if_neg (by decide +kernel)]; exact ⟨rfl, rfl⟩))
    (fun os started H enc _ => lifted os started H enc)

theorem proved : Rows.FnNewEntryGivesBackContentSaid := over
end Go.Proofs.Qxb6604243a.fnNewEntryGivesBackContent

theorem Go.Proofs.Qxb6604243a.fnNewEntryGivesBackContent_proved : Go.Proofs.Qxb6604243a.Rows.FnNewEntryGivesBackContentSaid := Go.Proofs.Qxb6604243a.fnNewEntryGivesBackContent.proved
#print axioms Go.Proofs.Qxb6604243a.fnNewEntryGivesBackContent_proved
