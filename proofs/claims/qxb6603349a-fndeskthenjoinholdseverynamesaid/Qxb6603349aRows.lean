/-
  NARROWER THAN 'FOR EVERY INPUT', by the rows' own cells (each row's printed sentence says how): FnFindAgreesWithLinearSearch: maps.
  DERIVED. THE GIVEN ROWS OF THIS SEAT. 5 by the template 'for every input the law returns true; each argument reads behind the call as it read before'; 0 by the template 'total and deterministic' (their statements: Qxb6603349aTotals.lean).
  GIVEN WITH THE SEED: the statements are not yours to turn. If you find one false, say at which input.
  Laid BY PROGRAM, IN A SANDBOX (cutbox-rows.mjs): the forced cells as the released guide's own fill.sh prints them over the translation dcf5aec65bcb106d… (all of the seat's roots in one cut). By AI agents, Wed Nov 11 2026. No macro, syntax, notation, axiom, sorry.
-/
import Derived.Test.Qxb6603349aChecked
import GoSem.Claim
import GoSem.ClaimJoined
import GoSem.ClaimMapViews
import Derived.JoinedTies
import Derived.KernelRfl
namespace Go.Proofs.Qxb6603349a
/- THE CELL 'sum', in the pinned program and in every row, IS THE sha256 OF THE DUMP (.gsa) THAT Qxb6603349aProg.lean LOADS. Nothing in Lean hashes anything: it is a label: what it is worth is what the hold of that sum in a sandbox is worth. -/
noncomputable def Try.pinned : Pinned := { name := "qxb6603349a", sum := "dcf5aec65bcb106d814873055360c93abdb5895dfc8b4e9610d630803cb2edf4", checked := Try.checked }
namespace Rows
def none {H : Type} : Left H := { results := [], args := [] }

/-- 'zzlaws_books_b1.FnFindAgreesWithLinearSearch': WHATEVER THE INPUT: true; the input reads as it did. -/
def fnFindAgreesWithLinearSearchSpec : ChangeSpec := { name := "fnFindAgreesWithLinearSearch", fn := fun _ => fun
  | [d1, d2, d3] => { results := [.lit (.bool true)], args := [d1, d2, d3] }
  | _ => none }
def fnFindAgreesWithLinearSearchRow : OpenClaim := { program := "qxb6603349a", sum := "dcf5aec65bcb106d814873055360c93abdb5895dfc8b4e9610d630803cb2edf4", func := "example.com/tierfold/tierfold/zzlaws_books_b1.FnFindAgreesWithLinearSearch", spec := "fnFindAgreesWithLinearSearch", maps := true, apart := false }
def FnFindAgreesWithLinearSearchSaid : Prop := fnFindAgreesWithLinearSearchRow.holds Try.pinned (OpenSpec.ofChange fnFindAgreesWithLinearSearchSpec)

/-- ITS FALSE NEIGHBOUR: 'it returns false'. Refute it at one input. -/
def fnFindAgreesWithLinearSearchWrong : ChangeSpec := { name := "fnFindAgreesWithLinearSearch", fn := fun _ => fun
  | [d1, d2, d3] => { results := [.lit (.bool false)], args := [d1, d2, d3] }
  | _ => none }
def FnFindAgreesWithLinearSearchWrongFalsely : Prop := fnFindAgreesWithLinearSearchRow.holds Try.pinned (OpenSpec.ofChange fnFindAgreesWithLinearSearchWrong)

/-- 'zzlaws_books_b1.FnFindScriptNumbersFirstAppearances': WHATEVER THE INPUT: true; the input reads as it did. -/
def fnFindScriptNumbersFirstAppearancesSpec : ChangeSpec := { name := "fnFindScriptNumbersFirstAppearances", fn := fun _ => fun
  | [d] => { results := [.lit (.bool true)], args := [d] }
  | _ => none }
def fnFindScriptNumbersFirstAppearancesRow : OpenClaim := { program := "qxb6603349a", sum := "dcf5aec65bcb106d814873055360c93abdb5895dfc8b4e9610d630803cb2edf4", func := "example.com/tierfold/tierfold/zzlaws_books_b1.FnFindScriptNumbersFirstAppearances", spec := "fnFindScriptNumbersFirstAppearances", apart := false }
def FnFindScriptNumbersFirstAppearancesSaid : Prop := fnFindScriptNumbersFirstAppearancesRow.holds Try.pinned (OpenSpec.ofChange fnFindScriptNumbersFirstAppearancesSpec)

/-- ITS FALSE NEIGHBOUR: 'it returns false'. Refute it at one input. -/
def fnFindScriptNumbersFirstAppearancesWrong : ChangeSpec := { name := "fnFindScriptNumbersFirstAppearances", fn := fun _ => fun
  | [d] => { results := [.lit (.bool false)], args := [d] }
  | _ => none }
def FnFindScriptNumbersFirstAppearancesWrongFalsely : Prop := fnFindScriptNumbersFirstAppearancesRow.holds Try.pinned (OpenSpec.ofChange fnFindScriptNumbersFirstAppearancesWrong)

/-- 'zzlaws_books_b1.FnJoinMergesToSortedUnion': WHATEVER THE INPUT: true; the input reads as it did. -/
def fnJoinMergesToSortedUnionSpec : ChangeSpec := { name := "fnJoinMergesToSortedUnion", fn := fun _ => fun
  | [d1, d2] => { results := [.lit (.bool true)], args := [d1, d2] }
  | _ => none }
def fnJoinMergesToSortedUnionRow : OpenClaim := { program := "qxb6603349a", sum := "dcf5aec65bcb106d814873055360c93abdb5895dfc8b4e9610d630803cb2edf4", func := "example.com/tierfold/tierfold/zzlaws_books_b1.FnJoinMergesToSortedUnion", spec := "fnJoinMergesToSortedUnion", inPlace := ["internal/bytealg.abigen_runtime_cmpstring"], unfollowed := true, recurses := true, apart := false }
def FnJoinMergesToSortedUnionSaid : Prop := fnJoinMergesToSortedUnionRow.holds Try.pinned (OpenSpec.ofChange fnJoinMergesToSortedUnionSpec)

/-- ITS FALSE NEIGHBOUR: 'it returns false'. Refute it at one input. -/
def fnJoinMergesToSortedUnionWrong : ChangeSpec := { name := "fnJoinMergesToSortedUnion", fn := fun _ => fun
  | [d1, d2] => { results := [.lit (.bool false)], args := [d1, d2] }
  | _ => none }
def FnJoinMergesToSortedUnionWrongFalsely : Prop := fnJoinMergesToSortedUnionRow.holds Try.pinned (OpenSpec.ofChange fnJoinMergesToSortedUnionWrong)

/-- 'zzlaws_books_b1.FnDeskAccountFindsOrOpens': WHATEVER THE INPUT: true; the input reads as it did. -/
def fnDeskAccountFindsOrOpensSpec : ChangeSpec := { name := "fnDeskAccountFindsOrOpens", fn := fun _ => fun
  | [d1, d2, d3] => { results := [.lit (.bool true)], args := [d1, d2, d3] }
  | _ => none }
def fnDeskAccountFindsOrOpensRow : OpenClaim := { program := "qxb6603349a", sum := "dcf5aec65bcb106d814873055360c93abdb5895dfc8b4e9610d630803cb2edf4", func := "example.com/tierfold/tierfold/zzlaws_books_b1.FnDeskAccountFindsOrOpens", spec := "fnDeskAccountFindsOrOpens", inPlace := ["internal/bytealg.abigen_runtime_cmpstring"], unfollowed := true, recurses := true, apart := false }
def FnDeskAccountFindsOrOpensSaid : Prop := fnDeskAccountFindsOrOpensRow.holds Try.pinned (OpenSpec.ofChange fnDeskAccountFindsOrOpensSpec)

/-- ITS FALSE NEIGHBOUR: 'it returns false'. Refute it at one input. -/
def fnDeskAccountFindsOrOpensWrong : ChangeSpec := { name := "fnDeskAccountFindsOrOpens", fn := fun _ => fun
  | [d1, d2, d3] => { results := [.lit (.bool false)], args := [d1, d2, d3] }
  | _ => none }
def FnDeskAccountFindsOrOpensWrongFalsely : Prop := fnDeskAccountFindsOrOpensRow.holds Try.pinned (OpenSpec.ofChange fnDeskAccountFindsOrOpensWrong)

/-- 'zzlaws_books_b1.FnDeskThenJoinHoldsEveryName': WHATEVER THE INPUT: true; the input reads as it did. -/
def fnDeskThenJoinHoldsEveryNameSpec : ChangeSpec := { name := "fnDeskThenJoinHoldsEveryName", fn := fun _ => fun
  | [d1, d2] => { results := [.lit (.bool true)], args := [d1, d2] }
  | _ => none }
def fnDeskThenJoinHoldsEveryNameRow : OpenClaim := { program := "qxb6603349a", sum := "dcf5aec65bcb106d814873055360c93abdb5895dfc8b4e9610d630803cb2edf4", func := "example.com/tierfold/tierfold/zzlaws_books_b1.FnDeskThenJoinHoldsEveryName", spec := "fnDeskThenJoinHoldsEveryName", inPlace := ["internal/bytealg.abigen_runtime_cmpstring"], unfollowed := true, recurses := true, apart := false }
def FnDeskThenJoinHoldsEveryNameSaid : Prop := fnDeskThenJoinHoldsEveryNameRow.holds Try.pinned (OpenSpec.ofChange fnDeskThenJoinHoldsEveryNameSpec)

/-- ITS FALSE NEIGHBOUR: 'it returns false'. Refute it at one input. -/
def fnDeskThenJoinHoldsEveryNameWrong : ChangeSpec := { name := "fnDeskThenJoinHoldsEveryName", fn := fun _ => fun
  | [d1, d2] => { results := [.lit (.bool false)], args := [d1, d2] }
  | _ => none }
def FnDeskThenJoinHoldsEveryNameWrongFalsely : Prop := fnDeskThenJoinHoldsEveryNameRow.holds Try.pinned (OpenSpec.ofChange fnDeskThenJoinHoldsEveryNameWrong)

end Rows
end Go.Proofs.Qxb6603349a
