/-
  No cell of these rows narrows 'for every input' (looked for: loops, veiled, ifaces, maps, wideKeys, modest, calm, conditions, laid).
  DERIVED. THE GIVEN ROWS OF THIS SEAT. 2 by the template 'for every input the law returns true; each argument reads behind the call as it read before'; 0 by the template 'total and deterministic' (their statements: Qxb6601061aTotals.lean).
  GIVEN WITH THE SEED: the statements are not yours to turn. If you find one false, say at which input.
  Laid BY PROGRAM, IN A SANDBOX (cutbox-rows.mjs): the forced cells as the released guide's own fill.sh prints them over the translation a8a0543db39f5665… (all of the seat's roots in one cut). By AI agents, Wed Nov 11 2026. No macro, syntax, notation, axiom, sorry.
-/
import Derived.Test.Qxb6601061aChecked
import GoSem.Claim
import GoSem.ClaimJoined
import GoSem.ClaimMapViews
import Derived.JoinedTies
import Derived.KernelRfl
namespace Go.Proofs.Qxb6601061a
/- THE CELL 'sum', in the pinned program and in every row, IS THE sha256 OF THE DUMP (.gsa) THAT Qxb6601061aProg.lean LOADS. Nothing in Lean hashes anything: it is a label: what it is worth is what the hold of that sum in a sandbox is worth. -/
noncomputable def Try.pinned : Pinned := { name := "qxb6601061a", sum := "a8a0543db39f566513bc9191d16dec49391336362f3d628b0127944bcf008f97", checked := Try.checked }
namespace Rows
def none {H : Type} : Left H := { results := [], args := [] }

/-- 'zzlaws_server_b1.FnNewMetadataTrailingSlash': WHATEVER THE INPUT: true; the input reads as it did. -/
def fnNewMetadataTrailingSlashSpec : ChangeSpec := { name := "fnNewMetadataTrailingSlash", fn := fun _ => fun
  | [d] => { results := [.lit (.bool true)], args := [d] }
  | _ => none }
def fnNewMetadataTrailingSlashRow : OpenClaim := { program := "qxb6601061a", sum := "a8a0543db39f566513bc9191d16dec49391336362f3d628b0127944bcf008f97", func := "example.com/grantkeep/grantkeep/zzlaws_server_b1.FnNewMetadataTrailingSlash", spec := "fnNewMetadataTrailingSlash", apart := false }
def FnNewMetadataTrailingSlashSaid : Prop := fnNewMetadataTrailingSlashRow.holds Try.pinned (OpenSpec.ofChange fnNewMetadataTrailingSlashSpec)

/-- ITS FALSE NEIGHBOUR: 'it returns false'. Refute it at one input. -/
def fnNewMetadataTrailingSlashWrong : ChangeSpec := { name := "fnNewMetadataTrailingSlash", fn := fun _ => fun
  | [d] => { results := [.lit (.bool false)], args := [d] }
  | _ => none }
def FnNewMetadataTrailingSlashWrongFalsely : Prop := fnNewMetadataTrailingSlashRow.holds Try.pinned (OpenSpec.ofChange fnNewMetadataTrailingSlashWrong)

/-- 'zzlaws_server_b1.FnNewMetadataSameEndpointsExactly': WHATEVER THE INPUT: true; the input reads as it did. -/
def fnNewMetadataSameEndpointsExactlySpec : ChangeSpec := { name := "fnNewMetadataSameEndpointsExactly", fn := fun _ => fun
  | [d1, d2] => { results := [.lit (.bool true)], args := [d1, d2] }
  | _ => none }
def fnNewMetadataSameEndpointsExactlyRow : OpenClaim := { program := "qxb6601061a", sum := "a8a0543db39f566513bc9191d16dec49391336362f3d628b0127944bcf008f97", func := "example.com/grantkeep/grantkeep/zzlaws_server_b1.FnNewMetadataSameEndpointsExactly", spec := "fnNewMetadataSameEndpointsExactly", apart := false }
def FnNewMetadataSameEndpointsExactlySaid : Prop := fnNewMetadataSameEndpointsExactlyRow.holds Try.pinned (OpenSpec.ofChange fnNewMetadataSameEndpointsExactlySpec)

/-- ITS FALSE NEIGHBOUR: 'it returns false'. Refute it at one input. -/
def fnNewMetadataSameEndpointsExactlyWrong : ChangeSpec := { name := "fnNewMetadataSameEndpointsExactly", fn := fun _ => fun
  | [d1, d2] => { results := [.lit (.bool false)], args := [d1, d2] }
  | _ => none }
def FnNewMetadataSameEndpointsExactlyWrongFalsely : Prop := fnNewMetadataSameEndpointsExactlyRow.holds Try.pinned (OpenSpec.ofChange fnNewMetadataSameEndpointsExactlyWrong)

end Rows
end Go.Proofs.Qxb6601061a
