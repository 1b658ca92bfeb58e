/-
  'Rows.FnAcknowledgeAscendingDropsExactlyAckedSaid', PROVED: the guide's frame for a law, at this function's number and types (a struct by value, an integer, a bool); the walks are ours.
-/
import Derived.Test.Qxb6604243aRows
import Derived.Test.Qxb6604243aAscend
import Derived.Test.Qxb6604243aOpenP
import Derived.WalkKit
import Derived.ProofKit
import Derived.OpenShut
import Derived.ShutString
namespace Go.Proofs.Qxb6604243a.fnAcknowledgeAscendingDropsExactlyAcked
open Go.ChangeShapes Go.WideShapes Go.ChangeAt Go.RowKit
open Go.ChangeMaps (open_string shut_string)

theorem own : ownKnob Try.prog.godebug = none := by kernel_rfl
theorem laidOut : laidOutB Try.prog = true := by kernel_rfl

set_option maxRecDepth 100000 in
set_option maxHeartbeats 2000000 in
theorem walk (x0 x1 x2 x3 : Int) (b4 b5 : Bool) (x7 x8 x9 x10 x11 x12 : Int) (ad : Option Addr) (m cap b off : Nat) (E B : Nat → Int) (ack : Int) (cnt : Bool) (w : World) (h7 : wrap64 x7 = x7) (hs : SpansAt w ad m b off E B) :
    Calls Try.prog 4 #[.agg #[.int .u64 x0, .int .u64 x1, .int .u64 x2, .int .u64 x3, .bool b4, .bool b5, .slice ad m cap, .int .i64 x7, .int .u64 x8, .int .u64 x9, .int .u64 x10, .int .u64 x11, .int .u64 x12], .int .u64 ack, .bool cnt] w (Good w) := by
  by_cases c0 : m ≤ 4096
  · exact ascend_main x0 x1 x2 x3 b4 b5 x7 x8 x9 x10 x11 x12 ad m cap b off E B ack cnt w c0 h7 hs
  clear hs h7
  by_cases c1 : m ≤ 1048576
  · go_enter Try.func4, Try.ntmps4
    go_wp2_with fail
    have hB0 : Below w.heap.size w (w.alloc (.cells #[.int .u64 x0, .int .u64 x1, .int .u64 x2, .int .u64 x3, .bool b4, .bool b5, .slice ad m cap, .int .i64 x7, .int .u64 x8, .int .u64 x9, .int .u64 x10, .int .u64 x11, .int .u64 x12] 25)) := (Below.refl _ _).alloc (Nat.le_refl _) _
    have hP0 := ProgAt.new w 25 x0 x1 x2 x3 b4 b5 (.slice ad m cap) x7 x8 x9 x10 x11 x12
    have HB0 := hide hB0
    have HP0 := hide hP0
    clear hB0 hP0
    generalize w.alloc (.cells #[.int .u64 x0, .int .u64 x1, .int .u64 x2, .int .u64 x3, .bool b4, .bool b5, .slice ad m cap, .int .i64 x7, .int .u64 x8, .int .u64 x9, .int .u64 x10, .int .u64 x11, .int .u64 x12] 25) = w0 at HB0 HP0 ⊢
    refine (bytes11_yes x0 x1 x2 x3 b4 b5 x7 x8 x9 x10 x11 x12 ad m cap ack cnt w0 c1).mono ?_
    rintro e w1 ⟨rfl, hb1⟩
    have p6 := (HP0.out.below hb1).cell6
    have HB1 : Hid (Below w.heap.size w w1) := HB0.out.trans (hb1.mono HB0.out.size)
    clear hb1 HP0 HB0
    go_wp2
    go_ret
    exact ⟨rfl, HB1.out⟩
  · go_enter Try.func4, Try.ntmps4
    go_wp2_with fail
    have hB0 : Below w.heap.size w (w.alloc (.cells #[.int .u64 x0, .int .u64 x1, .int .u64 x2, .int .u64 x3, .bool b4, .bool b5, .slice ad m cap, .int .i64 x7, .int .u64 x8, .int .u64 x9, .int .u64 x10, .int .u64 x11, .int .u64 x12] 25)) := (Below.refl _ _).alloc (Nat.le_refl _) _
    have HB0 := hide hB0
    clear hB0
    generalize w.alloc (.cells #[.int .u64 x0, .int .u64 x1, .int .u64 x2, .int .u64 x3, .bool b4, .bool b5, .slice ad m cap, .int .i64 x7, .int .u64 x8, .int .u64 x9, .int .u64 x10, .int .u64 x11, .int .u64 x12] 25) = w0 at HB0 ⊢
    refine (bytes11_no x0 x1 x2 x3 b4 b5 x7 x8 x9 x10 x11 x12 ad m cap ack cnt w0 c1).mono ?_
    rintro e w1 ⟨rfl, hb1⟩
    have HB1 : Hid (Below w.heap.size w w1) := HB0.out.trans (hb1.mono HB0.out.size)
    clear hb1 HB0
    go_wp2
    go_ret
    exact ⟨rfl, HB1.out⟩

/-! ### THE ROW's STEP -/
set_option maxRecDepth 100000 in
theorem lifted (os : Os) (started : os.Started) (H : Type) (enc : TypeId × Value → H) :
    ReturnsInHanded {} Try.checked os 4 .any (Rows.fnAcknowledgeAscendingDropsExactlyAckedSpec.pre6 enc Try.prog Try.f4 Rows.fnAcknowledgeAscendingDropsExactlyAckedRow.domain false) (Rows.fnAcknowledgeAscendingDropsExactlyAckedSpec.post enc Try.prog Try.f4 false true false false) := by
  refine returnsInHanded_of_change (C := Try.checked) own started (by kernel_rfl) Try.func4
    (ChangeSpec.witness6 (enc := enc) (C := Try.checked) false ⟨#[], #[.agg #[.int .u64 0, .int .u64 0, .int .u64 0, .int .u64 0, .bool false, .bool false, .slice none 0 0, .int .i64 0, .int .u64 0, .int .u64 0, .int .u64 0, .int .u64 0, .int .u64 0], .int .u64 0, .bool false], []⟩ 8 (by kernel_rfl) (by kernel_rfl) (by kernel_rfl) (by kernel_rfl)) ?_
  intro W base args ds gs before hval0 hW hcnd _
  have hval : ∀ (j : Nat) t v, Try.f4.params[j]? = some t → args[j]? = some v → Value.okWide Try.prog W .any base t v := hval0
  have hW' := hW
  obtain ⟨p, q, hA0, hV, rfl, hfz, hnd⟩ := hW
  have hA : DataW.TrodAll enc Try.prog W 0 (fun _ => true) true Try.f4.params.toList args.toList ds p := hA0
  rw [Try.params4] at hA hval
  obtain ⟨v0, vs0, d0, ds0, p0, q0, hargs, rfl, rfl, h0, r0⟩ := trodAll_cons hA
  obtain ⟨v1, vs1, d1, ds1, p1, q1, rfl, rfl, rfl, h1, r1⟩ := trodAll_cons r0
  obtain ⟨v2, vs2, d2, ds2, p2, q2, rfl, rfl, rfl, h2, r2⟩ := trodAll_cons r1
  obtain ⟨rfl, rfl, rfl⟩ := trodAll_nil r2
  obtain rfl : args = #[v0, v1, v2] := by cases args; simp_all
  obtain ⟨rfl, rfl⟩ := trodVars_none hV
  have k0 := h0
  have lt0 : ∀ x ∈ p0, x.block < W.heap.size := by obtain ⟨m, hm⟩ := k0; exact DataW.trod_lt m _ _ _ hm
  obtain ⟨x0, x1, x2, x3, b4, b5, ad, m, cap, x7, x8, x9, x10, x11, x12, b, off, E, B, rfl, w7, hS⟩ := open_prog (hval 0 25 v0 rfl rfl) h0
  obtain ⟨a1, rfl, rfl, rfl, w1⟩ := open_int Try.underlying22 (hval 1 22 v1 rfl rfl) h1
  obtain ⟨a2, rfl, rfl, rfl⟩ := open_bool Try.underlying4 (hval 2 4 v2 rfl rfl) h2
  clear hA0 hval0
  refine (walk x0 x1 x2 x3 b4 b5 x7 x8 x9 x10 x11 x12 ad m cap b off E B a1 a2 W w7 hS).mono fun e W' ⟨he, bel⟩ => ?_
  subst he
  exact ⟨_, rfl, _, _, _, [], _, [], hW', trodAll_mk1 (shut_bool Try.underlying4 _), (trodAll_cons_mk (Below.trod laidOut (by kernel_rfl) (of_decide_eq_true (by kernel_rfl)) k0 bel lt0) (trodAll_cons_mk (shut_int Try.underlying22 w1) (trodAll_cons_mk (shut_bool Try.underlying4 _) trodAll_mk0))), rfl, bel.frame _, fun h => by cases h⟩

theorem over : Rows.fnAcknowledgeAscendingDropsExactlyAckedRow.holds Try.pinned (OpenSpec.ofChange Rows.fnAcknowledgeAscendingDropsExactlyAckedSpec) :=
  OpenClaim.holds_of_wide 4 Try.f4 rfl rfl rfl rfl rfl rfl rfl ⟨rfl, rfl, rfl, rfl, rfl⟩ rfl rfl rfl rfl rfl (by kernel_rfl) Try.func4 (by kernel_rfl)
    (of_decide_eq_true (by kernel_rfl)) (by unfold Func.isWrapper; first | (rw [if_pos (by decide +kernel)]; kernel_rfl) | (rw [if_neg (by decide +kernel)]; exact ⟨rfl, rfl⟩))
    (fun os started H enc _ => lifted os started H enc)

theorem proved : Rows.FnAcknowledgeAscendingDropsExactlyAckedSaid := over
end Go.Proofs.Qxb6604243a.fnAcknowledgeAscendingDropsExactlyAcked

theorem Go.Proofs.Qxb6604243a.fnAcknowledgeAscendingDropsExactlyAcked_proved : Go.Proofs.Qxb6604243a.Rows.FnAcknowledgeAscendingDropsExactlyAckedSaid := Go.Proofs.Qxb6604243a.fnAcknowledgeAscendingDropsExactlyAcked.proved
#print axioms Go.Proofs.Qxb6604243a.fnAcknowledgeAscendingDropsExactlyAcked_proved
