/-
  No cell of these rows narrows 'for every input' (looked for: loops, veiled, ifaces, maps, wideKeys, modest, calm, conditions, laid).
  DERIVED. THE GIVEN ROWS OF THIS SEAT. 4 by the template 'for every input the law returns true; each argument reads behind the call as it read before'; 0 by the template 'total and deterministic' (their statements: Qxb6604102aTotals.lean).
  GIVEN WITH THE SEED: the statements are not yours to turn. If you find one false, say at which input.
  Laid BY PROGRAM, IN A SANDBOX (cutbox-rows.mjs): the forced cells as the released guide's own fill.sh prints them over the translation 0716a1062758bbf1… (all of the seat's roots in one cut). By AI agents, Wed Nov 11 2026. No macro, syntax, notation, axiom, sorry.
-/
import Derived.Test.Qxb6604102aChecked
import GoSem.Claim
import GoSem.ClaimJoined
import GoSem.ClaimMapViews
import Derived.JoinedTies
import Derived.KernelRfl
namespace Go.Proofs.Qxb6604102a
/- THE CELL 'sum', in the pinned program and in every row, IS THE sha256 OF THE DUMP (.gsa) THAT Qxb6604102aProg.lean LOADS. Nothing in Lean hashes anything: it is a label: what it is worth is what the hold of that sum in a sandbox is worth. -/
noncomputable def Try.pinned : Pinned := { name := "qxb6604102a", sum := "0716a1062758bbf18e6072180c7abf83debbac692a17306d455fd638061c978f", checked := Try.checked }
namespace Rows
def none {H : Type} : Left H := { results := [], args := [] }

/-- 'zzlaws_internal_protocol_b1.FnListsMembersExact': WHATEVER THE INPUT: true; the input reads as it did. -/
def fnListsMembersExactSpec : ChangeSpec := { name := "fnListsMembersExact", fn := fun _ => fun
  | [d1, d2, d3, d4, d5] => { results := [.lit (.bool true)], args := [d1, d2, d3, d4, d5] }
  | _ => none }
def fnListsMembersExactRow : OpenClaim := { program := "qxb6604102a", sum := "0716a1062758bbf18e6072180c7abf83debbac692a17306d455fd638061c978f", func := "example.com/chainward/chainward/zzlaws_internal_protocol_b1.FnListsMembersExact", spec := "fnListsMembersExact", apart := false }
def FnListsMembersExactSaid : Prop := fnListsMembersExactRow.holds Try.pinned (OpenSpec.ofChange fnListsMembersExactSpec)

/-- ITS FALSE NEIGHBOUR: 'it returns false'. Refute it at one input. -/
def fnListsMembersExactWrong : ChangeSpec := { name := "fnListsMembersExact", fn := fun _ => fun
  | [d1, d2, d3, d4, d5] => { results := [.lit (.bool false)], args := [d1, d2, d3, d4, d5] }
  | _ => none }
def FnListsMembersExactWrongFalsely : Prop := fnListsMembersExactRow.holds Try.pinned (OpenSpec.ofChange fnListsMembersExactWrong)

/-- 'zzlaws_internal_protocol_b1.FnInitialOrderListsMembersIffFits': WHATEVER THE INPUT: true; the input reads as it did. -/
def fnInitialOrderListsMembersIffFitsSpec : ChangeSpec := { name := "fnInitialOrderListsMembersIffFits", fn := fun _ => fun
  | [d1, d2] => { results := [.lit (.bool true)], args := [d1, d2] }
  | _ => none }
def fnInitialOrderListsMembersIffFitsRow : OpenClaim := { program := "qxb6604102a", sum := "0716a1062758bbf18e6072180c7abf83debbac692a17306d455fd638061c978f", func := "example.com/chainward/chainward/zzlaws_internal_protocol_b1.FnInitialOrderListsMembersIffFits", spec := "fnInitialOrderListsMembersIffFits", apart := false }
def FnInitialOrderListsMembersIffFitsSaid : Prop := fnInitialOrderListsMembersIffFitsRow.holds Try.pinned (OpenSpec.ofChange fnInitialOrderListsMembersIffFitsSpec)

/-- ITS FALSE NEIGHBOUR: 'it returns false'. Refute it at one input. -/
def fnInitialOrderListsMembersIffFitsWrong : ChangeSpec := { name := "fnInitialOrderListsMembersIffFits", fn := fun _ => fun
  | [d1, d2] => { results := [.lit (.bool false)], args := [d1, d2] }
  | _ => none }
def FnInitialOrderListsMembersIffFitsWrongFalsely : Prop := fnInitialOrderListsMembersIffFitsRow.holds Try.pinned (OpenSpec.ofChange fnInitialOrderListsMembersIffFitsWrong)

/-- 'zzlaws_internal_protocol_b1.FnMembersMultisetSorted': WHATEVER THE INPUT: true; the input reads as it did. -/
def fnMembersMultisetSortedSpec : ChangeSpec := { name := "fnMembersMultisetSorted", fn := fun _ => fun
  | [d1, d2] => { results := [.lit (.bool true)], args := [d1, d2] }
  | _ => none }
def fnMembersMultisetSortedRow : OpenClaim := { program := "qxb6604102a", sum := "0716a1062758bbf18e6072180c7abf83debbac692a17306d455fd638061c978f", func := "example.com/chainward/chainward/zzlaws_internal_protocol_b1.FnMembersMultisetSorted", spec := "fnMembersMultisetSorted", recurses := true, apart := false }
def FnMembersMultisetSortedSaid : Prop := fnMembersMultisetSortedRow.holds Try.pinned (OpenSpec.ofChange fnMembersMultisetSortedSpec)

/-- ITS FALSE NEIGHBOUR: 'it returns false'. Refute it at one input. -/
def fnMembersMultisetSortedWrong : ChangeSpec := { name := "fnMembersMultisetSorted", fn := fun _ => fun
  | [d1, d2] => { results := [.lit (.bool false)], args := [d1, d2] }
  | _ => none }
def FnMembersMultisetSortedWrongFalsely : Prop := fnMembersMultisetSortedRow.holds Try.pinned (OpenSpec.ofChange fnMembersMultisetSortedWrong)

/-- 'zzlaws_internal_protocol_b1.FnMembersFreshSparesListMembers': WHATEVER THE INPUT: true; the input reads as it did. -/
def fnMembersFreshSparesListMembersSpec : ChangeSpec := { name := "fnMembersFreshSparesListMembers", fn := fun _ => fun
  | [d1, d2, d3] => { results := [.lit (.bool true)], args := [d1, d2, d3] }
  | _ => none }
def fnMembersFreshSparesListMembersRow : OpenClaim := { program := "qxb6604102a", sum := "0716a1062758bbf18e6072180c7abf83debbac692a17306d455fd638061c978f", func := "example.com/chainward/chainward/zzlaws_internal_protocol_b1.FnMembersFreshSparesListMembers", spec := "fnMembersFreshSparesListMembers", recurses := true, apart := false }
def FnMembersFreshSparesListMembersSaid : Prop := fnMembersFreshSparesListMembersRow.holds Try.pinned (OpenSpec.ofChange fnMembersFreshSparesListMembersSpec)

/-- ITS FALSE NEIGHBOUR: 'it returns false'. Refute it at one input. -/
def fnMembersFreshSparesListMembersWrong : ChangeSpec := { name := "fnMembersFreshSparesListMembers", fn := fun _ => fun
  | [d1, d2, d3] => { results := [.lit (.bool false)], args := [d1, d2, d3] }
  | _ => none }
def FnMembersFreshSparesListMembersWrongFalsely : Prop := fnMembersFreshSparesListMembersRow.holds Try.pinned (OpenSpec.ofChange fnMembersFreshSparesListMembersWrong)

end Rows
end Go.Proofs.Qxb6604102a
