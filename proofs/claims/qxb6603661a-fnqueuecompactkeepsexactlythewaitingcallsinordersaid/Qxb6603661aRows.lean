/-
  No cell of these rows narrows 'for every input' (looked for: loops, veiled, ifaces, maps, wideKeys, modest, calm, conditions, laid).
  DERIVED. THE GIVEN ROWS OF THIS SEAT. 4 by the template 'for every input the law returns true; each argument reads behind the call as it read before'; 0 by the template 'total and deterministic' (their statements: Qxb6603661aTotals.lean).
  GIVEN WITH THE SEED: the statements are not yours to turn. If you find one false, say at which input.
  Laid BY PROGRAM, IN A SANDBOX (cutbox-rows.mjs): the forced cells as the released guide's own fill.sh prints them over the translation 6ff34e765fc7630f… (all of the seat's roots in one cut). By AI agents, Wed Nov 11 2026. No macro, syntax, notation, axiom, sorry.
-/
import Derived.Test.Qxb6603661aChecked
import GoSem.Claim
import GoSem.ClaimJoined
import GoSem.ClaimMapViews
import Derived.JoinedTies
import Derived.KernelRfl
namespace Go.Proofs.Qxb6603661a
/- THE CELL 'sum', in the pinned program and in every row, IS THE sha256 OF THE DUMP (.gsa) THAT Qxb6603661aProg.lean LOADS. Nothing in Lean hashes anything: it is a label: what it is worth is what the hold of that sum in a sandbox is worth. -/
noncomputable def Try.pinned : Pinned := { name := "qxb6603661a", sum := "6ff34e765fc7630fd55fbfe276c2c650addcd1a6b140cf6da640ffbe436f43db", checked := Try.checked }
namespace Rows
def none {H : Type} : Left H := { results := [], args := [] }

/-- 'zzlaws_internal_ring_b1.FnMarksCountIsNumberOfMembers': WHATEVER THE INPUT: true; the input reads as it did. -/
def fnMarksCountIsNumberOfMembersSpec : ChangeSpec := { name := "fnMarksCountIsNumberOfMembers", fn := fun _ => fun
  | [d] => { results := [.lit (.bool true)], args := [d] }
  | _ => none }
def fnMarksCountIsNumberOfMembersRow : OpenClaim := { program := "qxb6603661a", sum := "6ff34e765fc7630fd55fbfe276c2c650addcd1a6b140cf6da640ffbe436f43db", func := "example.com/fingerloom/fingerloom/zzlaws_internal_ring_b1.FnMarksCountIsNumberOfMembers", spec := "fnMarksCountIsNumberOfMembers", apart := false }
def FnMarksCountIsNumberOfMembersSaid : Prop := fnMarksCountIsNumberOfMembersRow.holds Try.pinned (OpenSpec.ofChange fnMarksCountIsNumberOfMembersSpec)

/-- ITS FALSE NEIGHBOUR: 'it returns false'. Refute it at one input. -/
def fnMarksCountIsNumberOfMembersWrong : ChangeSpec := { name := "fnMarksCountIsNumberOfMembers", fn := fun _ => fun
  | [d] => { results := [.lit (.bool false)], args := [d] }
  | _ => none }
def FnMarksCountIsNumberOfMembersWrongFalsely : Prop := fnMarksCountIsNumberOfMembersRow.holds Try.pinned (OpenSpec.ofChange fnMarksCountIsNumberOfMembersWrong)

/-- 'zzlaws_internal_ring_b1.FnMarksCountAndComplementCoverEveryBit': WHATEVER THE INPUT: true; the input reads as it did. -/
def fnMarksCountAndComplementCoverEveryBitSpec : ChangeSpec := { name := "fnMarksCountAndComplementCoverEveryBit", fn := fun _ => fun
  | [d] => { results := [.lit (.bool true)], args := [d] }
  | _ => none }
def fnMarksCountAndComplementCoverEveryBitRow : OpenClaim := { program := "qxb6603661a", sum := "6ff34e765fc7630fd55fbfe276c2c650addcd1a6b140cf6da640ffbe436f43db", func := "example.com/fingerloom/fingerloom/zzlaws_internal_ring_b1.FnMarksCountAndComplementCoverEveryBit", spec := "fnMarksCountAndComplementCoverEveryBit", apart := false }
def FnMarksCountAndComplementCoverEveryBitSaid : Prop := fnMarksCountAndComplementCoverEveryBitRow.holds Try.pinned (OpenSpec.ofChange fnMarksCountAndComplementCoverEveryBitSpec)

/-- ITS FALSE NEIGHBOUR: 'it returns false'. Refute it at one input. -/
def fnMarksCountAndComplementCoverEveryBitWrong : ChangeSpec := { name := "fnMarksCountAndComplementCoverEveryBit", fn := fun _ => fun
  | [d] => { results := [.lit (.bool false)], args := [d] }
  | _ => none }
def FnMarksCountAndComplementCoverEveryBitWrongFalsely : Prop := fnMarksCountAndComplementCoverEveryBitRow.holds Try.pinned (OpenSpec.ofChange fnMarksCountAndComplementCoverEveryBitWrong)

/-- 'zzlaws_internal_ring_b1.FnQueueCompactKeepsExactlyTheWaitingCallsInOrder': WHATEVER THE INPUT: true; the input reads as it did. -/
def fnQueueCompactKeepsExactlyTheWaitingCallsInOrderSpec : ChangeSpec := { name := "fnQueueCompactKeepsExactlyTheWaitingCallsInOrder", fn := fun _ => fun
  | [d1, d2, d3, d4, d5, d6, d7, d8] => { results := [.lit (.bool true)], args := [d1, d2, d3, d4, d5, d6, d7, d8] }
  | _ => none }
def fnQueueCompactKeepsExactlyTheWaitingCallsInOrderRow : OpenClaim := { program := "qxb6603661a", sum := "6ff34e765fc7630fd55fbfe276c2c650addcd1a6b140cf6da640ffbe436f43db", func := "example.com/fingerloom/fingerloom/zzlaws_internal_ring_b1.FnQueueCompactKeepsExactlyTheWaitingCallsInOrder", spec := "fnQueueCompactKeepsExactlyTheWaitingCallsInOrder", apart := false }
def FnQueueCompactKeepsExactlyTheWaitingCallsInOrderSaid : Prop := fnQueueCompactKeepsExactlyTheWaitingCallsInOrderRow.holds Try.pinned (OpenSpec.ofChange fnQueueCompactKeepsExactlyTheWaitingCallsInOrderSpec)

/-- ITS FALSE NEIGHBOUR: 'it returns false'. Refute it at one input. -/
def fnQueueCompactKeepsExactlyTheWaitingCallsInOrderWrong : ChangeSpec := { name := "fnQueueCompactKeepsExactlyTheWaitingCallsInOrder", fn := fun _ => fun
  | [d1, d2, d3, d4, d5, d6, d7, d8] => { results := [.lit (.bool false)], args := [d1, d2, d3, d4, d5, d6, d7, d8] }
  | _ => none }
def FnQueueCompactKeepsExactlyTheWaitingCallsInOrderWrongFalsely : Prop := fnQueueCompactKeepsExactlyTheWaitingCallsInOrderRow.holds Try.pinned (OpenSpec.ofChange fnQueueCompactKeepsExactlyTheWaitingCallsInOrderWrong)

/-- 'zzlaws_internal_ring_b1.FnQueueCompactIndexFindsEachCallAndIsIdempotent': WHATEVER THE INPUT: true; the input reads as it did. -/
def fnQueueCompactIndexFindsEachCallAndIsIdempotentSpec : ChangeSpec := { name := "fnQueueCompactIndexFindsEachCallAndIsIdempotent", fn := fun _ => fun
  | [d1, d2, d3, d4, d5, d6, d7] => { results := [.lit (.bool true)], args := [d1, d2, d3, d4, d5, d6, d7] }
  | _ => none }
def fnQueueCompactIndexFindsEachCallAndIsIdempotentRow : OpenClaim := { program := "qxb6603661a", sum := "6ff34e765fc7630fd55fbfe276c2c650addcd1a6b140cf6da640ffbe436f43db", func := "example.com/fingerloom/fingerloom/zzlaws_internal_ring_b1.FnQueueCompactIndexFindsEachCallAndIsIdempotent", spec := "fnQueueCompactIndexFindsEachCallAndIsIdempotent", apart := false }
def FnQueueCompactIndexFindsEachCallAndIsIdempotentSaid : Prop := fnQueueCompactIndexFindsEachCallAndIsIdempotentRow.holds Try.pinned (OpenSpec.ofChange fnQueueCompactIndexFindsEachCallAndIsIdempotentSpec)

/-- ITS FALSE NEIGHBOUR: 'it returns false'. Refute it at one input. -/
def fnQueueCompactIndexFindsEachCallAndIsIdempotentWrong : ChangeSpec := { name := "fnQueueCompactIndexFindsEachCallAndIsIdempotent", fn := fun _ => fun
  | [d1, d2, d3, d4, d5, d6, d7] => { results := [.lit (.bool false)], args := [d1, d2, d3, d4, d5, d6, d7] }
  | _ => none }
def FnQueueCompactIndexFindsEachCallAndIsIdempotentWrongFalsely : Prop := fnQueueCompactIndexFindsEachCallAndIsIdempotentRow.holds Try.pinned (OpenSpec.ofChange fnQueueCompactIndexFindsEachCallAndIsIdempotentWrong)

end Rows
end Go.Proofs.Qxb6603661a
