/-
  No cell of these rows narrows 'for every input' (looked for: loops, veiled, ifaces, maps, wideKeys, modest, calm, conditions, laid).
  DERIVED. THE GIVEN ROWS OF THIS SEAT. 4 by the template 'for every input the law returns true; each argument reads behind the call as it read before'; 0 by the template 'total and deterministic' (their statements: Qxb6603491aTotals.lean).
  GIVEN WITH THE SEED: the statements are not yours to turn. If you find one false, say at which input.
  Laid BY PROGRAM, IN A SANDBOX (cutbox-rows.mjs): the forced cells as the released guide's own fill.sh prints them over the translation e43f2119e4b71096… (all of the seat's roots in one cut). By AI agents, Wed Nov 11 2026. No macro, syntax, notation, axiom, sorry.
-/
import Derived.Test.Qxb6603491aChecked
import GoSem.Claim
import GoSem.ClaimJoined
import GoSem.ClaimMapViews
import Derived.JoinedTies
import Derived.KernelRfl
namespace Go.Proofs.Qxb6603491a
/- THE CELL 'sum', in the pinned program and in every row, IS THE sha256 OF THE DUMP (.gsa) THAT Qxb6603491aProg.lean LOADS. Nothing in Lean hashes anything: it is a label: what it is worth is what the hold of that sum in a sandbox is worth. -/
noncomputable def Try.pinned : Pinned := { name := "qxb6603491a", sum := "e43f2119e4b71096768bde7d3f6ea61f390857a750c2c2a86eb675d0afe52792", checked := Try.checked }
namespace Rows
def none {H : Type} : Left H := { results := [], args := [] }

/-- 'zzlaws_internal_cluster_b1.FnCompareEntriesIsHashPrefixedKeyOrder': WHATEVER THE INPUT: true; the input reads as it did. -/
def fnCompareEntriesIsHashPrefixedKeyOrderSpec : ChangeSpec := { name := "fnCompareEntriesIsHashPrefixedKeyOrder", fn := fun _ => fun
  | [d1, d2, d3, d4, d5, d6] => { results := [.lit (.bool true)], args := [d1, d2, d3, d4, d5, d6] }
  | _ => none }
def fnCompareEntriesIsHashPrefixedKeyOrderRow : OpenClaim := { program := "qxb6603491a", sum := "e43f2119e4b71096768bde7d3f6ea61f390857a750c2c2a86eb675d0afe52792", func := "example.com/folkmoot/folkmoot/zzlaws_internal_cluster_b1.FnCompareEntriesIsHashPrefixedKeyOrder", spec := "fnCompareEntriesIsHashPrefixedKeyOrder", inPlace := ["internal/bytealg.Compare"], apart := false }
def FnCompareEntriesIsHashPrefixedKeyOrderSaid : Prop := fnCompareEntriesIsHashPrefixedKeyOrderRow.holds Try.pinned (OpenSpec.ofChange fnCompareEntriesIsHashPrefixedKeyOrderSpec)

/-- ITS FALSE NEIGHBOUR: 'it returns false'. Refute it at one input. -/
def fnCompareEntriesIsHashPrefixedKeyOrderWrong : ChangeSpec := { name := "fnCompareEntriesIsHashPrefixedKeyOrder", fn := fun _ => fun
  | [d1, d2, d3, d4, d5, d6] => { results := [.lit (.bool false)], args := [d1, d2, d3, d4, d5, d6] }
  | _ => none }
def FnCompareEntriesIsHashPrefixedKeyOrderWrongFalsely : Prop := fnCompareEntriesIsHashPrefixedKeyOrderRow.holds Try.pinned (OpenSpec.ofChange fnCompareEntriesIsHashPrefixedKeyOrderWrong)

/-- 'zzlaws_internal_cluster_b1.FnCompareEntriesIsATotalOrderOnALeaf': WHATEVER THE INPUT: true; the input reads as it did. -/
def fnCompareEntriesIsATotalOrderOnALeafSpec : ChangeSpec := { name := "fnCompareEntriesIsATotalOrderOnALeaf", fn := fun _ => fun
  | [d1, d2, d3, d4, d5] => { results := [.lit (.bool true)], args := [d1, d2, d3, d4, d5] }
  | _ => none }
def fnCompareEntriesIsATotalOrderOnALeafRow : OpenClaim := { program := "qxb6603491a", sum := "e43f2119e4b71096768bde7d3f6ea61f390857a750c2c2a86eb675d0afe52792", func := "example.com/folkmoot/folkmoot/zzlaws_internal_cluster_b1.FnCompareEntriesIsATotalOrderOnALeaf", spec := "fnCompareEntriesIsATotalOrderOnALeaf", inPlace := ["internal/bytealg.Compare"], apart := false }
def FnCompareEntriesIsATotalOrderOnALeafSaid : Prop := fnCompareEntriesIsATotalOrderOnALeafRow.holds Try.pinned (OpenSpec.ofChange fnCompareEntriesIsATotalOrderOnALeafSpec)

/-- ITS FALSE NEIGHBOUR: 'it returns false'. Refute it at one input. -/
def fnCompareEntriesIsATotalOrderOnALeafWrong : ChangeSpec := { name := "fnCompareEntriesIsATotalOrderOnALeaf", fn := fun _ => fun
  | [d1, d2, d3, d4, d5] => { results := [.lit (.bool false)], args := [d1, d2, d3, d4, d5] }
  | _ => none }
def FnCompareEntriesIsATotalOrderOnALeafWrongFalsely : Prop := fnCompareEntriesIsATotalOrderOnALeafRow.holds Try.pinned (OpenSpec.ofChange fnCompareEntriesIsATotalOrderOnALeafWrong)

/-- 'zzlaws_internal_cluster_b1.FnMasterEligibleIffSomeRoleIsExactlyMaster': WHATEVER THE INPUT: true; the input reads as it did. -/
def fnMasterEligibleIffSomeRoleIsExactlyMasterSpec : ChangeSpec := { name := "fnMasterEligibleIffSomeRoleIsExactlyMaster", fn := fun _ => fun
  | [d1, d2, d3, d4] => { results := [.lit (.bool true)], args := [d1, d2, d3, d4] }
  | _ => none }
def fnMasterEligibleIffSomeRoleIsExactlyMasterRow : OpenClaim := { program := "qxb6603491a", sum := "e43f2119e4b71096768bde7d3f6ea61f390857a750c2c2a86eb675d0afe52792", func := "example.com/folkmoot/folkmoot/zzlaws_internal_cluster_b1.FnMasterEligibleIffSomeRoleIsExactlyMaster", spec := "fnMasterEligibleIffSomeRoleIsExactlyMaster", apart := false }
def FnMasterEligibleIffSomeRoleIsExactlyMasterSaid : Prop := fnMasterEligibleIffSomeRoleIsExactlyMasterRow.holds Try.pinned (OpenSpec.ofChange fnMasterEligibleIffSomeRoleIsExactlyMasterSpec)

/-- ITS FALSE NEIGHBOUR: 'it returns false'. Refute it at one input. -/
def fnMasterEligibleIffSomeRoleIsExactlyMasterWrong : ChangeSpec := { name := "fnMasterEligibleIffSomeRoleIsExactlyMaster", fn := fun _ => fun
  | [d1, d2, d3, d4] => { results := [.lit (.bool false)], args := [d1, d2, d3, d4] }
  | _ => none }
def FnMasterEligibleIffSomeRoleIsExactlyMasterWrongFalsely : Prop := fnMasterEligibleIffSomeRoleIsExactlyMasterRow.holds Try.pinned (OpenSpec.ofChange fnMasterEligibleIffSomeRoleIsExactlyMasterWrong)

/-- 'zzlaws_internal_cluster_b1.FnMasterEligibleFollowsRoleEdits': WHATEVER THE INPUT: true; the input reads as it did. -/
def fnMasterEligibleFollowsRoleEditsSpec : ChangeSpec := { name := "fnMasterEligibleFollowsRoleEdits", fn := fun _ => fun
  | [d1, d2, d3, d4] => { results := [.lit (.bool true)], args := [d1, d2, d3, d4] }
  | _ => none }
def fnMasterEligibleFollowsRoleEditsRow : OpenClaim := { program := "qxb6603491a", sum := "e43f2119e4b71096768bde7d3f6ea61f390857a750c2c2a86eb675d0afe52792", func := "example.com/folkmoot/folkmoot/zzlaws_internal_cluster_b1.FnMasterEligibleFollowsRoleEdits", spec := "fnMasterEligibleFollowsRoleEdits", apart := false }
def FnMasterEligibleFollowsRoleEditsSaid : Prop := fnMasterEligibleFollowsRoleEditsRow.holds Try.pinned (OpenSpec.ofChange fnMasterEligibleFollowsRoleEditsSpec)

/-- ITS FALSE NEIGHBOUR: 'it returns false'. Refute it at one input. -/
def fnMasterEligibleFollowsRoleEditsWrong : ChangeSpec := { name := "fnMasterEligibleFollowsRoleEdits", fn := fun _ => fun
  | [d1, d2, d3, d4] => { results := [.lit (.bool false)], args := [d1, d2, d3, d4] }
  | _ => none }
def FnMasterEligibleFollowsRoleEditsWrongFalsely : Prop := fnMasterEligibleFollowsRoleEditsRow.holds Try.pinned (OpenSpec.ofChange fnMasterEligibleFollowsRoleEditsWrong)

end Rows
end Go.Proofs.Qxb6603491a
