/-
  No cell of these rows narrows 'for every input' (looked for: loops, veiled, ifaces, maps, wideKeys, modest, calm, conditions, laid).
  DERIVED. THE GIVEN ROWS OF THIS SEAT. 8 by the template 'for every input the law returns true; each argument reads behind the call as it read before'; 0 by the template 'total and deterministic' (their statements: Qxb6002697aTotals.lean).
  GIVEN WITH THE SEED: the statements are not yours to turn. If you find one false, say at which input.
  Laid BY PROGRAM, IN A SANDBOX (cutbox-rows.mjs): the forced cells as the released guide's own fill.sh prints them over the translation 45d2ea839021bb26… (all of the seat's roots in one cut). By AI agents, Wed Nov 11 2026. No macro, syntax, notation, axiom, sorry.
-/
import Derived.Test.Qxb6002697aChecked
import GoSem.Claim
import GoSem.ClaimJoined
import GoSem.ClaimMapViews
import Derived.JoinedTies
import Derived.KernelRfl
namespace Go.Proofs.Qxb6002697a
/- THE CELL 'sum', in the pinned program and in every row, IS THE sha256 OF THE DUMP (.gsa) THAT Qxb6002697aProg.lean LOADS. Nothing in Lean hashes anything: it is a label: what it is worth is what the hold of that sum in a sandbox is worth. -/
noncomputable def Try.pinned : Pinned := { name := "qxb6002697a", sum := "45d2ea839021bb26315aa3172354c0506982ec2fddb2df4e7e981e68be743f71", checked := Try.checked }
namespace Rows
def none {H : Type} : Left H := { results := [], args := [] }

/-- 'zzlaws_jsondoc_b1.FnHexValueMatchesDigitTables': WHATEVER THE INPUT: true; the input reads as it did. -/
def fnHexValueMatchesDigitTablesSpec : ChangeSpec := { name := "fnHexValueMatchesDigitTables", fn := fun _ => fun
  | [d] => { results := [.lit (.bool true)], args := [d] }
  | _ => none }
def fnHexValueMatchesDigitTablesRow : OpenClaim := { program := "qxb6002697a", sum := "45d2ea839021bb26315aa3172354c0506982ec2fddb2df4e7e981e68be743f71", func := "example.com/linkwright/linkwright/zzlaws_jsondoc_b1.FnHexValueMatchesDigitTables", spec := "fnHexValueMatchesDigitTables", apart := false }
def FnHexValueMatchesDigitTablesSaid : Prop := fnHexValueMatchesDigitTablesRow.holds Try.pinned (OpenSpec.ofChange fnHexValueMatchesDigitTablesSpec)

/-- ITS FALSE NEIGHBOUR: 'it returns false'. Refute it at one input. -/
def fnHexValueMatchesDigitTablesWrong : ChangeSpec := { name := "fnHexValueMatchesDigitTables", fn := fun _ => fun
  | [d] => { results := [.lit (.bool false)], args := [d] }
  | _ => none }
def FnHexValueMatchesDigitTablesWrongFalsely : Prop := fnHexValueMatchesDigitTablesRow.holds Try.pinned (OpenSpec.ofChange fnHexValueMatchesDigitTablesWrong)

/-- 'zzlaws_jsondoc_b1.FnHexValueDecodesEncodedByte': WHATEVER THE INPUT: true; the input reads as it did. -/
def fnHexValueDecodesEncodedByteSpec : ChangeSpec := { name := "fnHexValueDecodesEncodedByte", fn := fun _ => fun
  | [d1, d2] => { results := [.lit (.bool true)], args := [d1, d2] }
  | _ => none }
def fnHexValueDecodesEncodedByteRow : OpenClaim := { program := "qxb6002697a", sum := "45d2ea839021bb26315aa3172354c0506982ec2fddb2df4e7e981e68be743f71", func := "example.com/linkwright/linkwright/zzlaws_jsondoc_b1.FnHexValueDecodesEncodedByte", spec := "fnHexValueDecodesEncodedByte", apart := false }
def FnHexValueDecodesEncodedByteSaid : Prop := fnHexValueDecodesEncodedByteRow.holds Try.pinned (OpenSpec.ofChange fnHexValueDecodesEncodedByteSpec)

/-- ITS FALSE NEIGHBOUR: 'it returns false'. Refute it at one input. -/
def fnHexValueDecodesEncodedByteWrong : ChangeSpec := { name := "fnHexValueDecodesEncodedByte", fn := fun _ => fun
  | [d1, d2] => { results := [.lit (.bool false)], args := [d1, d2] }
  | _ => none }
def FnHexValueDecodesEncodedByteWrongFalsely : Prop := fnHexValueDecodesEncodedByteRow.holds Try.pinned (OpenSpec.ofChange fnHexValueDecodesEncodedByteWrong)

/-- 'zzlaws_jsondoc_b1.FnRepeatedMembersDedups': WHATEVER THE INPUT: true; the input reads as it did. -/
def fnRepeatedMembersDedupsSpec : ChangeSpec := { name := "fnRepeatedMembersDedups", fn := fun _ => fun
  | [d] => { results := [.lit (.bool true)], args := [d] }
  | _ => none }
def fnRepeatedMembersDedupsRow : OpenClaim := { program := "qxb6002697a", sum := "45d2ea839021bb26315aa3172354c0506982ec2fddb2df4e7e981e68be743f71", func := "example.com/linkwright/linkwright/zzlaws_jsondoc_b1.FnRepeatedMembersDedups", spec := "fnRepeatedMembersDedups", apart := false }
def FnRepeatedMembersDedupsSaid : Prop := fnRepeatedMembersDedupsRow.holds Try.pinned (OpenSpec.ofChange fnRepeatedMembersDedupsSpec)

/-- ITS FALSE NEIGHBOUR: 'it returns false'. Refute it at one input. -/
def fnRepeatedMembersDedupsWrong : ChangeSpec := { name := "fnRepeatedMembersDedups", fn := fun _ => fun
  | [d] => { results := [.lit (.bool false)], args := [d] }
  | _ => none }
def FnRepeatedMembersDedupsWrongFalsely : Prop := fnRepeatedMembersDedupsRow.holds Try.pinned (OpenSpec.ofChange fnRepeatedMembersDedupsWrong)

/-- 'zzlaws_jsondoc_b1.FnRepeatedMembersPrefix': WHATEVER THE INPUT: true; the input reads as it did. -/
def fnRepeatedMembersPrefixSpec : ChangeSpec := { name := "fnRepeatedMembersPrefix", fn := fun _ => fun
  | [d1, d2] => { results := [.lit (.bool true)], args := [d1, d2] }
  | _ => none }
def fnRepeatedMembersPrefixRow : OpenClaim := { program := "qxb6002697a", sum := "45d2ea839021bb26315aa3172354c0506982ec2fddb2df4e7e981e68be743f71", func := "example.com/linkwright/linkwright/zzlaws_jsondoc_b1.FnRepeatedMembersPrefix", spec := "fnRepeatedMembersPrefix", apart := false }
def FnRepeatedMembersPrefixSaid : Prop := fnRepeatedMembersPrefixRow.holds Try.pinned (OpenSpec.ofChange fnRepeatedMembersPrefixSpec)

/-- ITS FALSE NEIGHBOUR: 'it returns false'. Refute it at one input. -/
def fnRepeatedMembersPrefixWrong : ChangeSpec := { name := "fnRepeatedMembersPrefix", fn := fun _ => fun
  | [d1, d2] => { results := [.lit (.bool false)], args := [d1, d2] }
  | _ => none }
def FnRepeatedMembersPrefixWrongFalsely : Prop := fnRepeatedMembersPrefixRow.holds Try.pinned (OpenSpec.ofChange fnRepeatedMembersPrefixWrong)

/-- 'zzlaws_jsondoc_b1.FnRepeatedMembersOwnOnly': WHATEVER THE INPUT: true; the input reads as it did. -/
def fnRepeatedMembersOwnOnlySpec : ChangeSpec := { name := "fnRepeatedMembersOwnOnly", fn := fun _ => fun
  | [d1, d2] => { results := [.lit (.bool true)], args := [d1, d2] }
  | _ => none }
def fnRepeatedMembersOwnOnlyRow : OpenClaim := { program := "qxb6002697a", sum := "45d2ea839021bb26315aa3172354c0506982ec2fddb2df4e7e981e68be743f71", func := "example.com/linkwright/linkwright/zzlaws_jsondoc_b1.FnRepeatedMembersOwnOnly", spec := "fnRepeatedMembersOwnOnly", apart := false }
def FnRepeatedMembersOwnOnlySaid : Prop := fnRepeatedMembersOwnOnlyRow.holds Try.pinned (OpenSpec.ofChange fnRepeatedMembersOwnOnlySpec)

/-- ITS FALSE NEIGHBOUR: 'it returns false'. Refute it at one input. -/
def fnRepeatedMembersOwnOnlyWrong : ChangeSpec := { name := "fnRepeatedMembersOwnOnly", fn := fun _ => fun
  | [d1, d2] => { results := [.lit (.bool false)], args := [d1, d2] }
  | _ => none }
def FnRepeatedMembersOwnOnlyWrongFalsely : Prop := fnRepeatedMembersOwnOnlyRow.holds Try.pinned (OpenSpec.ofChange fnRepeatedMembersOwnOnlyWrong)

/-- 'zzlaws_jsondoc_b1.FnTextIdempotent': WHATEVER THE INPUT: true; the input reads as it did. -/
def fnTextIdempotentSpec : ChangeSpec := { name := "fnTextIdempotent", fn := fun _ => fun
  | [d1, d2] => { results := [.lit (.bool true)], args := [d1, d2] }
  | _ => none }
def fnTextIdempotentRow : OpenClaim := { program := "qxb6002697a", sum := "45d2ea839021bb26315aa3172354c0506982ec2fddb2df4e7e981e68be743f71", func := "example.com/linkwright/linkwright/zzlaws_jsondoc_b1.FnTextIdempotent", spec := "fnTextIdempotent", inPlace := ["internal/abi.NoEscape"], apart := false }
def FnTextIdempotentSaid : Prop := fnTextIdempotentRow.holds Try.pinned (OpenSpec.ofChange fnTextIdempotentSpec)

/-- ITS FALSE NEIGHBOUR: 'it returns false'. Refute it at one input. -/
def fnTextIdempotentWrong : ChangeSpec := { name := "fnTextIdempotent", fn := fun _ => fun
  | [d1, d2] => { results := [.lit (.bool false)], args := [d1, d2] }
  | _ => none }
def FnTextIdempotentWrongFalsely : Prop := fnTextIdempotentRow.holds Try.pinned (OpenSpec.ofChange fnTextIdempotentWrong)

/-- 'zzlaws_jsondoc_b1.FnTextDropsOnlyWhiteSpace': WHATEVER THE INPUT: true; the input reads as it did. -/
def fnTextDropsOnlyWhiteSpaceSpec : ChangeSpec := { name := "fnTextDropsOnlyWhiteSpace", fn := fun _ => fun
  | [d1, d2] => { results := [.lit (.bool true)], args := [d1, d2] }
  | _ => none }
def fnTextDropsOnlyWhiteSpaceRow : OpenClaim := { program := "qxb6002697a", sum := "45d2ea839021bb26315aa3172354c0506982ec2fddb2df4e7e981e68be743f71", func := "example.com/linkwright/linkwright/zzlaws_jsondoc_b1.FnTextDropsOnlyWhiteSpace", spec := "fnTextDropsOnlyWhiteSpace", inPlace := ["internal/abi.NoEscape"], apart := false }
def FnTextDropsOnlyWhiteSpaceSaid : Prop := fnTextDropsOnlyWhiteSpaceRow.holds Try.pinned (OpenSpec.ofChange fnTextDropsOnlyWhiteSpaceSpec)

/-- ITS FALSE NEIGHBOUR: 'it returns false'. Refute it at one input. -/
def fnTextDropsOnlyWhiteSpaceWrong : ChangeSpec := { name := "fnTextDropsOnlyWhiteSpace", fn := fun _ => fun
  | [d1, d2] => { results := [.lit (.bool false)], args := [d1, d2] }
  | _ => none }
def FnTextDropsOnlyWhiteSpaceWrongFalsely : Prop := fnTextDropsOnlyWhiteSpaceRow.holds Try.pinned (OpenSpec.ofChange fnTextDropsOnlyWhiteSpaceWrong)

/-- 'zzlaws_jsondoc_b1.FnTextIgnoresLeadingWhiteSpace': WHATEVER THE INPUT: true; the input reads as it did. -/
def fnTextIgnoresLeadingWhiteSpaceSpec : ChangeSpec := { name := "fnTextIgnoresLeadingWhiteSpace", fn := fun _ => fun
  | [d1, d2, d3] => { results := [.lit (.bool true)], args := [d1, d2, d3] }
  | _ => none }
def fnTextIgnoresLeadingWhiteSpaceRow : OpenClaim := { program := "qxb6002697a", sum := "45d2ea839021bb26315aa3172354c0506982ec2fddb2df4e7e981e68be743f71", func := "example.com/linkwright/linkwright/zzlaws_jsondoc_b1.FnTextIgnoresLeadingWhiteSpace", spec := "fnTextIgnoresLeadingWhiteSpace", inPlace := ["internal/abi.NoEscape"], apart := false }
def FnTextIgnoresLeadingWhiteSpaceSaid : Prop := fnTextIgnoresLeadingWhiteSpaceRow.holds Try.pinned (OpenSpec.ofChange fnTextIgnoresLeadingWhiteSpaceSpec)

/-- ITS FALSE NEIGHBOUR: 'it returns false'. Refute it at one input. -/
def fnTextIgnoresLeadingWhiteSpaceWrong : ChangeSpec := { name := "fnTextIgnoresLeadingWhiteSpace", fn := fun _ => fun
  | [d1, d2, d3] => { results := [.lit (.bool false)], args := [d1, d2, d3] }
  | _ => none }
def FnTextIgnoresLeadingWhiteSpaceWrongFalsely : Prop := fnTextIgnoresLeadingWhiteSpaceRow.holds Try.pinned (OpenSpec.ofChange fnTextIgnoresLeadingWhiteSpaceWrong)

end Rows
end Go.Proofs.Qxb6002697a
