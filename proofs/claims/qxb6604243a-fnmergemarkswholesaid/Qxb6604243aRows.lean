/-
  No cell of these rows narrows 'for every input' (looked for: loops, veiled, ifaces, maps, wideKeys, modest, calm, conditions, laid).
  DERIVED. THE GIVEN ROWS OF THIS SEAT. 4 by the template 'for every input the law returns true; each argument reads behind the call as it read before'; 0 by the template 'total and deterministic' (their statements: Qxb6604243aTotals.lean).
  GIVEN WITH THE SEED: the statements are not yours to turn. If you find one false, say at which input.
  Laid BY PROGRAM, IN A SANDBOX (cutbox-rows.mjs): the forced cells as the released guide's own fill.sh prints them over the translation eee70280a858e83d… (all of the seat's roots in one cut). By AI agents, Wed Nov 11 2026. No macro, syntax, notation, axiom, sorry.
-/
import Derived.Test.Qxb6604243aChecked
import GoSem.Claim
import GoSem.ClaimJoined
import GoSem.ClaimMapViews
import Derived.JoinedTies
import Derived.KernelRfl
namespace Go.Proofs.Qxb6604243a
/- THE CELL 'sum', in the pinned program and in every row, IS THE sha256 OF THE DUMP (.gsa) THAT Qxb6604243aProg.lean LOADS. Nothing in Lean hashes anything: it is a label: what it is worth is what the hold of that sum in a sandbox is worth. -/
noncomputable def Try.pinned : Pinned := { name := "qxb6604243a", sum := "eee70280a858e83d05187fd10ea9ebc498b044dc38e30162bc1bac743c3fa59d", checked := Try.checked }
namespace Rows
def none {H : Type} : Left H := { results := [], args := [] }

/-- 'zzlaws_internal_raft_b1.FnAcknowledgeWhole': WHATEVER THE INPUT: true; the input reads as it did. -/
def fnAcknowledgeWholeSpec : ChangeSpec := { name := "fnAcknowledgeWhole", fn := fun _ => fun
  | [d1, d2, d3] => { results := [.lit (.bool true)], args := [d1, d2, d3] }
  | _ => none }
def fnAcknowledgeWholeRow : OpenClaim := { program := "qxb6604243a", sum := "eee70280a858e83d05187fd10ea9ebc498b044dc38e30162bc1bac743c3fa59d", func := "example.com/quorumlog/quorumlog/zzlaws_internal_raft_b1.FnAcknowledgeWhole", spec := "fnAcknowledgeWhole", apart := false }
def FnAcknowledgeWholeSaid : Prop := fnAcknowledgeWholeRow.holds Try.pinned (OpenSpec.ofChange fnAcknowledgeWholeSpec)

/-- ITS FALSE NEIGHBOUR: 'it returns false'. Refute it at one input. -/
def fnAcknowledgeWholeWrong : ChangeSpec := { name := "fnAcknowledgeWhole", fn := fun _ => fun
  | [d1, d2, d3] => { results := [.lit (.bool false)], args := [d1, d2, d3] }
  | _ => none }
def FnAcknowledgeWholeWrongFalsely : Prop := fnAcknowledgeWholeRow.holds Try.pinned (OpenSpec.ofChange fnAcknowledgeWholeWrong)

/-- 'zzlaws_internal_raft_b1.FnAcknowledgeAscendingDropsExactlyAcked': WHATEVER THE INPUT: true; the input reads as it did. -/
def fnAcknowledgeAscendingDropsExactlyAckedSpec : ChangeSpec := { name := "fnAcknowledgeAscendingDropsExactlyAcked", fn := fun _ => fun
  | [d1, d2, d3] => { results := [.lit (.bool true)], args := [d1, d2, d3] }
  | _ => none }
def fnAcknowledgeAscendingDropsExactlyAckedRow : OpenClaim := { program := "qxb6604243a", sum := "eee70280a858e83d05187fd10ea9ebc498b044dc38e30162bc1bac743c3fa59d", func := "example.com/quorumlog/quorumlog/zzlaws_internal_raft_b1.FnAcknowledgeAscendingDropsExactlyAcked", spec := "fnAcknowledgeAscendingDropsExactlyAcked", apart := false }
def FnAcknowledgeAscendingDropsExactlyAckedSaid : Prop := fnAcknowledgeAscendingDropsExactlyAckedRow.holds Try.pinned (OpenSpec.ofChange fnAcknowledgeAscendingDropsExactlyAckedSpec)

/-- ITS FALSE NEIGHBOUR: 'it returns false'. Refute it at one input. -/
def fnAcknowledgeAscendingDropsExactlyAckedWrong : ChangeSpec := { name := "fnAcknowledgeAscendingDropsExactlyAcked", fn := fun _ => fun
  | [d1, d2, d3] => { results := [.lit (.bool false)], args := [d1, d2, d3] }
  | _ => none }
def FnAcknowledgeAscendingDropsExactlyAckedWrongFalsely : Prop := fnAcknowledgeAscendingDropsExactlyAckedRow.holds Try.pinned (OpenSpec.ofChange fnAcknowledgeAscendingDropsExactlyAckedWrong)

/-- 'zzlaws_internal_raft_b1.FnNewEntryGivesBackContent': WHATEVER THE INPUT: true; the input reads as it did. -/
def fnNewEntryGivesBackContentSpec : ChangeSpec := { name := "fnNewEntryGivesBackContent", fn := fun _ => fun
  | [d1, d2, d3, d4, d5, d6, d7] => { results := [.lit (.bool true)], args := [d1, d2, d3, d4, d5, d6, d7] }
  | _ => none }
def fnNewEntryGivesBackContentRow : OpenClaim := { program := "qxb6604243a", sum := "eee70280a858e83d05187fd10ea9ebc498b044dc38e30162bc1bac743c3fa59d", func := "example.com/quorumlog/quorumlog/zzlaws_internal_raft_b1.FnNewEntryGivesBackContent", spec := "fnNewEntryGivesBackContent", apart := false }
def FnNewEntryGivesBackContentSaid : Prop := fnNewEntryGivesBackContentRow.holds Try.pinned (OpenSpec.ofChange fnNewEntryGivesBackContentSpec)

/-- ITS FALSE NEIGHBOUR: 'it returns false'. Refute it at one input. -/
def fnNewEntryGivesBackContentWrong : ChangeSpec := { name := "fnNewEntryGivesBackContent", fn := fun _ => fun
  | [d1, d2, d3, d4, d5, d6, d7] => { results := [.lit (.bool false)], args := [d1, d2, d3, d4, d5, d6, d7] }
  | _ => none }
def FnNewEntryGivesBackContentWrongFalsely : Prop := fnNewEntryGivesBackContentRow.holds Try.pinned (OpenSpec.ofChange fnNewEntryGivesBackContentWrong)

/-- 'zzlaws_internal_raft_b1.FnMergeMarksWhole': WHATEVER THE INPUT: true; the input reads as it did. -/
def fnMergeMarksWholeSpec : ChangeSpec := { name := "fnMergeMarksWhole", fn := fun _ => fun
  | [d1, d2] => { results := [.lit (.bool true)], args := [d1, d2] }
  | _ => none }
def fnMergeMarksWholeRow : OpenClaim := { program := "qxb6604243a", sum := "eee70280a858e83d05187fd10ea9ebc498b044dc38e30162bc1bac743c3fa59d", func := "example.com/quorumlog/quorumlog/zzlaws_internal_raft_b1.FnMergeMarksWhole", spec := "fnMergeMarksWhole", inPlace := ["internal/bytealg.abigen_runtime_cmpstring"], apart := false }
def FnMergeMarksWholeSaid : Prop := fnMergeMarksWholeRow.holds Try.pinned (OpenSpec.ofChange fnMergeMarksWholeSpec)

/-- ITS FALSE NEIGHBOUR: 'it returns false'. Refute it at one input. -/
def fnMergeMarksWholeWrong : ChangeSpec := { name := "fnMergeMarksWhole", fn := fun _ => fun
  | [d1, d2] => { results := [.lit (.bool false)], args := [d1, d2] }
  | _ => none }
def FnMergeMarksWholeWrongFalsely : Prop := fnMergeMarksWholeRow.holds Try.pinned (OpenSpec.ofChange fnMergeMarksWholeWrong)

end Rows
end Go.Proofs.Qxb6604243a
