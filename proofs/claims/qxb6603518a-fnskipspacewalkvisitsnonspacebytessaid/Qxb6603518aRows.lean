/-
  No cell of these rows narrows 'for every input' (looked for: loops, veiled, ifaces, maps, wideKeys, modest, calm, conditions, laid).
  DERIVED. THE GIVEN ROWS OF THIS SEAT. 2 by the template 'for every input the law returns true; each argument reads behind the call as it read before'; 0 by the template 'total and deterministic' (their statements: Qxb6603518aTotals.lean).
  GIVEN WITH THE SEED: the statements are not yours to turn. If you find one false, say at which input.
  Laid BY PROGRAM, IN A SANDBOX (cutbox-rows.mjs): the forced cells as the released guide's own fill.sh prints them over the translation 9c4d73afddc62c4c… (all of the seat's roots in one cut). By AI agents, Wed Nov 11 2026. No macro, syntax, notation, axiom, sorry.
-/
import Derived.Test.Qxb6603518aChecked
import GoSem.Claim
import GoSem.ClaimJoined
import GoSem.ClaimMapViews
import Derived.JoinedTies
import Derived.KernelRfl
namespace Go.Proofs.Qxb6603518a
/- THE CELL 'sum', in the pinned program and in every row, IS THE sha256 OF THE DUMP (.gsa) THAT Qxb6603518aProg.lean LOADS. Nothing in Lean hashes anything: it is a label: what it is worth is what the hold of that sum in a sandbox is worth. -/
noncomputable def Try.pinned : Pinned := { name := "qxb6603518a", sum := "9c4d73afddc62c4c6efb1fd4ee12b7c91faa18ca2e74ff54c9576221cd72c04f", checked := Try.checked }
namespace Rows
def none {H : Type} : Left H := { results := [], args := [] }

/-- 'zzlaws_internal_exactjson_b1.FnSkipSpaceLeastNonSpaceAtOrAfter': WHATEVER THE INPUT: true; the input reads as it did. -/
def fnSkipSpaceLeastNonSpaceAtOrAfterSpec : ChangeSpec := { name := "fnSkipSpaceLeastNonSpaceAtOrAfter", fn := fun _ => fun
  | [d1, d2] => { results := [.lit (.bool true)], args := [d1, d2] }
  | _ => none }
def fnSkipSpaceLeastNonSpaceAtOrAfterRow : OpenClaim := { program := "qxb6603518a", sum := "9c4d73afddc62c4c6efb1fd4ee12b7c91faa18ca2e74ff54c9576221cd72c04f", func := "example.com/adwarden/adwarden/zzlaws_internal_exactjson_b1.FnSkipSpaceLeastNonSpaceAtOrAfter", spec := "fnSkipSpaceLeastNonSpaceAtOrAfter", apart := false }
def FnSkipSpaceLeastNonSpaceAtOrAfterSaid : Prop := fnSkipSpaceLeastNonSpaceAtOrAfterRow.holds Try.pinned (OpenSpec.ofChange fnSkipSpaceLeastNonSpaceAtOrAfterSpec)

/-- ITS FALSE NEIGHBOUR: 'it returns false'. Refute it at one input. -/
def fnSkipSpaceLeastNonSpaceAtOrAfterWrong : ChangeSpec := { name := "fnSkipSpaceLeastNonSpaceAtOrAfter", fn := fun _ => fun
  | [d1, d2] => { results := [.lit (.bool false)], args := [d1, d2] }
  | _ => none }
def FnSkipSpaceLeastNonSpaceAtOrAfterWrongFalsely : Prop := fnSkipSpaceLeastNonSpaceAtOrAfterRow.holds Try.pinned (OpenSpec.ofChange fnSkipSpaceLeastNonSpaceAtOrAfterWrong)

/-- 'zzlaws_internal_exactjson_b1.FnSkipSpaceWalkVisitsNonSpaceBytes': WHATEVER THE INPUT: true; the input reads as it did. -/
def fnSkipSpaceWalkVisitsNonSpaceBytesSpec : ChangeSpec := { name := "fnSkipSpaceWalkVisitsNonSpaceBytes", fn := fun _ => fun
  | [d1, d2] => { results := [.lit (.bool true)], args := [d1, d2] }
  | _ => none }
def fnSkipSpaceWalkVisitsNonSpaceBytesRow : OpenClaim := { program := "qxb6603518a", sum := "9c4d73afddc62c4c6efb1fd4ee12b7c91faa18ca2e74ff54c9576221cd72c04f", func := "example.com/adwarden/adwarden/zzlaws_internal_exactjson_b1.FnSkipSpaceWalkVisitsNonSpaceBytes", spec := "fnSkipSpaceWalkVisitsNonSpaceBytes", apart := false }
def FnSkipSpaceWalkVisitsNonSpaceBytesSaid : Prop := fnSkipSpaceWalkVisitsNonSpaceBytesRow.holds Try.pinned (OpenSpec.ofChange fnSkipSpaceWalkVisitsNonSpaceBytesSpec)

/-- ITS FALSE NEIGHBOUR: 'it returns false'. Refute it at one input. -/
def fnSkipSpaceWalkVisitsNonSpaceBytesWrong : ChangeSpec := { name := "fnSkipSpaceWalkVisitsNonSpaceBytes", fn := fun _ => fun
  | [d1, d2] => { results := [.lit (.bool false)], args := [d1, d2] }
  | _ => none }
def FnSkipSpaceWalkVisitsNonSpaceBytesWrongFalsely : Prop := fnSkipSpaceWalkVisitsNonSpaceBytesRow.holds Try.pinned (OpenSpec.ofChange fnSkipSpaceWalkVisitsNonSpaceBytesWrong)

end Rows
end Go.Proofs.Qxb6603518a
