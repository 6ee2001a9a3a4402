/-
  No cell of these rows narrows 'for every input' (looked for: loops, veiled, ifaces, maps, wideKeys, modest, calm, conditions, laid).
  DERIVED. THE GIVEN ROWS OF THIS SEAT. 4 by the template 'for every input the law returns true; each argument reads behind the call as it read before'; 0 by the template 'total and deterministic' (their statements: Qxb6003686aTotals.lean).
  GIVEN WITH THE SEED: the statements are not yours to turn. If you find one false, say at which input.
  Laid BY PROGRAM, IN A SANDBOX (cutbox-rows.mjs): the forced cells as the released guide's own fill.sh prints them over the translation dc637df72e5c86a6… (all of the seat's roots in one cut). By AI agents, Wed Nov 11 2026. No macro, syntax, notation, axiom, sorry.
-/
import Derived.Test.Qxb6003686aChecked
import GoSem.Claim
import GoSem.ClaimJoined
import GoSem.ClaimMapViews
import Derived.JoinedTies
import Derived.KernelRfl
namespace Go.Proofs.Qxb6003686a
/- THE CELL 'sum', in the pinned program and in every row, IS THE sha256 OF THE DUMP (.gsa) THAT Qxb6003686aProg.lean LOADS. Nothing in Lean hashes anything: it is a label: what it is worth is what the hold of that sum in a sandbox is worth. -/
noncomputable def Try.pinned : Pinned := { name := "qxb6003686a", sum := "dc637df72e5c86a69dcf23a7dd8bd3efd4be8f208f38e5f8e86e7328b6506316", checked := Try.checked }
namespace Rows
def none {H : Type} : Left H := { results := [], args := [] }

/-- 'zzlaws_tokens_g1.FnTakeFreshBelowSpec': WHATEVER THE INPUT: true; the input reads as it did. -/
def fnTakeFreshBelowSpecSpec : ChangeSpec := { name := "fnTakeFreshBelowSpec", fn := fun _ => fun
  | [d1, d2, d3, d4, d5] => { results := [.lit (.bool true)], args := [d1, d2, d3, d4, d5] }
  | _ => none }
def fnTakeFreshBelowSpecRow : OpenClaim := { program := "qxb6003686a", sum := "dc637df72e5c86a69dcf23a7dd8bd3efd4be8f208f38e5f8e86e7328b6506316", func := "example.com/churnweave/churnweave/zzlaws_tokens_g1.FnTakeFreshBelowSpec", spec := "fnTakeFreshBelowSpec", apart := false }
def FnTakeFreshBelowSpecSaid : Prop := fnTakeFreshBelowSpecRow.holds Try.pinned (OpenSpec.ofChange fnTakeFreshBelowSpecSpec)

/-- ITS FALSE NEIGHBOUR: 'it returns false'. Refute it at one input. -/
def fnTakeFreshBelowSpecWrong : ChangeSpec := { name := "fnTakeFreshBelowSpec", fn := fun _ => fun
  | [d1, d2, d3, d4, d5] => { results := [.lit (.bool false)], args := [d1, d2, d3, d4, d5] }
  | _ => none }
def FnTakeFreshBelowSpecWrongFalsely : Prop := fnTakeFreshBelowSpecRow.holds Try.pinned (OpenSpec.ofChange fnTakeFreshBelowSpecWrong)

/-- 'zzlaws_tokens_g1.FnSplitStablePartition': WHATEVER THE INPUT: true; the input reads as it did. -/
def fnSplitStablePartitionSpec : ChangeSpec := { name := "fnSplitStablePartition", fn := fun _ => fun
  | [d1, d2, d3] => { results := [.lit (.bool true)], args := [d1, d2, d3] }
  | _ => none }
def fnSplitStablePartitionRow : OpenClaim := { program := "qxb6003686a", sum := "dc637df72e5c86a69dcf23a7dd8bd3efd4be8f208f38e5f8e86e7328b6506316", func := "example.com/churnweave/churnweave/zzlaws_tokens_g1.FnSplitStablePartition", spec := "fnSplitStablePartition", apart := false }
def FnSplitStablePartitionSaid : Prop := fnSplitStablePartitionRow.holds Try.pinned (OpenSpec.ofChange fnSplitStablePartitionSpec)

/-- ITS FALSE NEIGHBOUR: 'it returns false'. Refute it at one input. -/
def fnSplitStablePartitionWrong : ChangeSpec := { name := "fnSplitStablePartition", fn := fun _ => fun
  | [d1, d2, d3] => { results := [.lit (.bool false)], args := [d1, d2, d3] }
  | _ => none }
def FnSplitStablePartitionWrongFalsely : Prop := fnSplitStablePartitionRow.holds Try.pinned (OpenSpec.ofChange fnSplitStablePartitionWrong)

/-- 'zzlaws_tokens_g1.FnPortDrawsCoverRow': WHATEVER THE INPUT: true; the input reads as it did. -/
def fnPortDrawsCoverRowSpec : ChangeSpec := { name := "fnPortDrawsCoverRow", fn := fun _ => fun
  | [d1, d2] => { results := [.lit (.bool true)], args := [d1, d2] }
  | _ => none }
def fnPortDrawsCoverRowRow : OpenClaim := { program := "qxb6003686a", sum := "dc637df72e5c86a69dcf23a7dd8bd3efd4be8f208f38e5f8e86e7328b6506316", func := "example.com/churnweave/churnweave/zzlaws_tokens_g1.FnPortDrawsCoverRow", spec := "fnPortDrawsCoverRow", apart := false }
def FnPortDrawsCoverRowSaid : Prop := fnPortDrawsCoverRowRow.holds Try.pinned (OpenSpec.ofChange fnPortDrawsCoverRowSpec)

/-- ITS FALSE NEIGHBOUR: 'it returns false'. Refute it at one input. -/
def fnPortDrawsCoverRowWrong : ChangeSpec := { name := "fnPortDrawsCoverRow", fn := fun _ => fun
  | [d1, d2] => { results := [.lit (.bool false)], args := [d1, d2] }
  | _ => none }
def FnPortDrawsCoverRowWrongFalsely : Prop := fnPortDrawsCoverRowRow.holds Try.pinned (OpenSpec.ofChange fnPortDrawsCoverRowWrong)

/-- 'zzlaws_tokens_g1.FnCountCrossingsAgreesWithMoves': WHATEVER THE INPUT: true; the input reads as it did. -/
def fnCountCrossingsAgreesWithMovesSpec : ChangeSpec := { name := "fnCountCrossingsAgreesWithMoves", fn := fun _ => fun
  | [d1, d2, d3, d4] => { results := [.lit (.bool true)], args := [d1, d2, d3, d4] }
  | _ => none }
def fnCountCrossingsAgreesWithMovesRow : OpenClaim := { program := "qxb6003686a", sum := "dc637df72e5c86a69dcf23a7dd8bd3efd4be8f208f38e5f8e86e7328b6506316", func := "example.com/churnweave/churnweave/zzlaws_tokens_g1.FnCountCrossingsAgreesWithMoves", spec := "fnCountCrossingsAgreesWithMoves", apart := false }
def FnCountCrossingsAgreesWithMovesSaid : Prop := fnCountCrossingsAgreesWithMovesRow.holds Try.pinned (OpenSpec.ofChange fnCountCrossingsAgreesWithMovesSpec)

/-- ITS FALSE NEIGHBOUR: 'it returns false'. Refute it at one input. -/
def fnCountCrossingsAgreesWithMovesWrong : ChangeSpec := { name := "fnCountCrossingsAgreesWithMoves", fn := fun _ => fun
  | [d1, d2, d3, d4] => { results := [.lit (.bool false)], args := [d1, d2, d3, d4] }
  | _ => none }
def FnCountCrossingsAgreesWithMovesWrongFalsely : Prop := fnCountCrossingsAgreesWithMovesRow.holds Try.pinned (OpenSpec.ofChange fnCountCrossingsAgreesWithMovesWrong)

end Rows
end Go.Proofs.Qxb6003686a
