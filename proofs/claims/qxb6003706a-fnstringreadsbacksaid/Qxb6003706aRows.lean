/-
  No cell of these rows narrows 'for every input' (looked for: loops, veiled, ifaces, maps, wideKeys, modest, calm, conditions, laid).
  DERIVED. THE GIVEN ROWS OF THIS SEAT. 4 by the template 'for every input the law returns true; each argument reads behind the call as it read before'; 0 by the template 'total and deterministic' (their statements: Qxb6003706aTotals.lean).
  GIVEN WITH THE SEED: the statements are not yours to turn. If you find one false, say at which input.
  Laid BY PROGRAM, IN A SANDBOX (cutbox-rows.mjs): the forced cells as the released guide's own fill.sh prints them over the translation 8c71b73ac544f85c… (all of the seat's roots in one cut). By AI agents, Wed Nov 11 2026. No macro, syntax, notation, axiom, sorry.
-/
import Derived.Test.Qxb6003706aChecked
import GoSem.Claim
import GoSem.ClaimJoined
import GoSem.ClaimMapViews
import Derived.JoinedTies
import Derived.KernelRfl
namespace Go.Proofs.Qxb6003706a
/- THE CELL 'sum', in the pinned program and in every row, IS THE sha256 OF THE DUMP (.gsa) THAT Qxb6003706aProg.lean LOADS. Nothing in Lean hashes anything: it is a label: what it is worth is what the hold of that sum in a sandbox is worth. -/
noncomputable def Try.pinned : Pinned := { name := "qxb6003706a", sum := "8c71b73ac544f85ce021ba058eefb748320aa6fc68b355d6483f5a6cac798b11", checked := Try.checked }
namespace Rows
def none {H : Type} : Left H := { results := [], args := [] }

/-- 'zzlaws_money_g1.FnStringReadsBack': WHATEVER THE INPUT: true; the input reads as it did. -/
def fnStringReadsBackSpec : ChangeSpec := { name := "fnStringReadsBack", fn := fun _ => fun
  | [d1, d2] => { results := [.lit (.bool true)], args := [d1, d2] }
  | _ => none }
def fnStringReadsBackRow : OpenClaim := { program := "qxb6003706a", sum := "8c71b73ac544f85ce021ba058eefb748320aa6fc68b355d6483f5a6cac798b11", func := "example.com/zhaomu/zhaomu/zzlaws_money_g1.FnStringReadsBack", spec := "fnStringReadsBack", apart := false }
def FnStringReadsBackSaid : Prop := fnStringReadsBackRow.holds Try.pinned (OpenSpec.ofChange fnStringReadsBackSpec)

/-- ITS FALSE NEIGHBOUR: 'it returns false'. Refute it at one input. -/
def fnStringReadsBackWrong : ChangeSpec := { name := "fnStringReadsBack", fn := fun _ => fun
  | [d1, d2] => { results := [.lit (.bool false)], args := [d1, d2] }
  | _ => none }
def FnStringReadsBackWrongFalsely : Prop := fnStringReadsBackRow.holds Try.pinned (OpenSpec.ofChange fnStringReadsBackWrong)

/-- 'zzlaws_money_g1.FnSignAgreesWithString': WHATEVER THE INPUT: true; the input reads as it did. -/
def fnSignAgreesWithStringSpec : ChangeSpec := { name := "fnSignAgreesWithString", fn := fun _ => fun
  | [d1, d2] => { results := [.lit (.bool true)], args := [d1, d2] }
  | _ => none }
def fnSignAgreesWithStringRow : OpenClaim := { program := "qxb6003706a", sum := "8c71b73ac544f85ce021ba058eefb748320aa6fc68b355d6483f5a6cac798b11", func := "example.com/zhaomu/zhaomu/zzlaws_money_g1.FnSignAgreesWithString", spec := "fnSignAgreesWithString", apart := false }
def FnSignAgreesWithStringSaid : Prop := fnSignAgreesWithStringRow.holds Try.pinned (OpenSpec.ofChange fnSignAgreesWithStringSpec)

/-- ITS FALSE NEIGHBOUR: 'it returns false'. Refute it at one input. -/
def fnSignAgreesWithStringWrong : ChangeSpec := { name := "fnSignAgreesWithString", fn := fun _ => fun
  | [d1, d2] => { results := [.lit (.bool false)], args := [d1, d2] }
  | _ => none }
def FnSignAgreesWithStringWrongFalsely : Prop := fnSignAgreesWithStringRow.holds Try.pinned (OpenSpec.ofChange fnSignAgreesWithStringWrong)

/-- 'zzlaws_money_g1.FnSignedInvertsMagnitude': WHATEVER THE INPUT: true; the input reads as it did. -/
def fnSignedInvertsMagnitudeSpec : ChangeSpec := { name := "fnSignedInvertsMagnitude", fn := fun _ => fun
  | [d1, d2] => { results := [.lit (.bool true)], args := [d1, d2] }
  | _ => none }
def fnSignedInvertsMagnitudeRow : OpenClaim := { program := "qxb6003706a", sum := "8c71b73ac544f85ce021ba058eefb748320aa6fc68b355d6483f5a6cac798b11", func := "example.com/zhaomu/zhaomu/zzlaws_money_g1.FnSignedInvertsMagnitude", spec := "fnSignedInvertsMagnitude", apart := false }
def FnSignedInvertsMagnitudeSaid : Prop := fnSignedInvertsMagnitudeRow.holds Try.pinned (OpenSpec.ofChange fnSignedInvertsMagnitudeSpec)

/-- ITS FALSE NEIGHBOUR: 'it returns false'. Refute it at one input. -/
def fnSignedInvertsMagnitudeWrong : ChangeSpec := { name := "fnSignedInvertsMagnitude", fn := fun _ => fun
  | [d1, d2] => { results := [.lit (.bool false)], args := [d1, d2] }
  | _ => none }
def FnSignedInvertsMagnitudeWrongFalsely : Prop := fnSignedInvertsMagnitudeRow.holds Try.pinned (OpenSpec.ofChange fnSignedInvertsMagnitudeWrong)

/-- 'zzlaws_money_g1.FnSignedKeepsMagnitudeScaleAndSign': WHATEVER THE INPUT: true; the input reads as it did. -/
def fnSignedKeepsMagnitudeScaleAndSignSpec : ChangeSpec := { name := "fnSignedKeepsMagnitudeScaleAndSign", fn := fun _ => fun
  | [d1, d2, d3] => { results := [.lit (.bool true)], args := [d1, d2, d3] }
  | _ => none }
def fnSignedKeepsMagnitudeScaleAndSignRow : OpenClaim := { program := "qxb6003706a", sum := "8c71b73ac544f85ce021ba058eefb748320aa6fc68b355d6483f5a6cac798b11", func := "example.com/zhaomu/zhaomu/zzlaws_money_g1.FnSignedKeepsMagnitudeScaleAndSign", spec := "fnSignedKeepsMagnitudeScaleAndSign", apart := false }
def FnSignedKeepsMagnitudeScaleAndSignSaid : Prop := fnSignedKeepsMagnitudeScaleAndSignRow.holds Try.pinned (OpenSpec.ofChange fnSignedKeepsMagnitudeScaleAndSignSpec)

/-- ITS FALSE NEIGHBOUR: 'it returns false'. Refute it at one input. -/
def fnSignedKeepsMagnitudeScaleAndSignWrong : ChangeSpec := { name := "fnSignedKeepsMagnitudeScaleAndSign", fn := fun _ => fun
  | [d1, d2, d3] => { results := [.lit (.bool false)], args := [d1, d2, d3] }
  | _ => none }
def FnSignedKeepsMagnitudeScaleAndSignWrongFalsely : Prop := fnSignedKeepsMagnitudeScaleAndSignRow.holds Try.pinned (OpenSpec.ofChange fnSignedKeepsMagnitudeScaleAndSignWrong)

end Rows
end Go.Proofs.Qxb6003706a
