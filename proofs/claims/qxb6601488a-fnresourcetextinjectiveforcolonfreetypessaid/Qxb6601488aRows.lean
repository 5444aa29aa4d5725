/-
  No cell of these rows narrows 'for every input' (looked for: loops, veiled, ifaces, maps, wideKeys, modest, calm, conditions, laid).
  DERIVED. THE GIVEN ROWS OF THIS SEAT. 5 by the template 'for every input the law returns true; each argument reads behind the call as it read before'; 0 by the template 'total and deterministic' (their statements: Qxb6601488aTotals.lean).
  GIVEN WITH THE SEED: the statements are not yours to turn. If you find one false, say at which input.
  Laid BY PROGRAM, IN A SANDBOX (cutbox-rows.mjs): the forced cells as the released guide's own fill.sh prints them over the translation 15a0570c1cd3fc42… (all of the seat's roots in one cut). By AI agents, Wed Nov 11 2026. No macro, syntax, notation, axiom, sorry.
-/
import Derived.Test.Qxb6601488aChecked
import GoSem.Claim
import GoSem.ClaimJoined
import GoSem.ClaimMapViews
import Derived.JoinedTies
import Derived.KernelRfl
namespace Go.Proofs.Qxb6601488a
/- THE CELL 'sum', in the pinned program and in every row, IS THE sha256 OF THE DUMP (.gsa) THAT Qxb6601488aProg.lean LOADS. Nothing in Lean hashes anything: it is a label: what it is worth is what the hold of that sum in a sandbox is worth. -/
noncomputable def Try.pinned : Pinned := { name := "qxb6601488a", sum := "15a0570c1cd3fc420faa184973af97a21d249d3ed406c16973e5725b7e92778c", checked := Try.checked }
namespace Rows
def none {H : Type} : Left H := { results := [], args := [] }

/-- 'zzlaws_pkg_authz_b1.FnFitsAgreesWithPrefixTable': WHATEVER THE INPUT: true; the input reads as it did. -/
def fnFitsAgreesWithPrefixTableSpec : ChangeSpec := { name := "fnFitsAgreesWithPrefixTable", fn := fun _ => fun
  | [d1, d2] => { results := [.lit (.bool true)], args := [d1, d2] }
  | _ => none }
def fnFitsAgreesWithPrefixTableRow : OpenClaim := { program := "qxb6601488a", sum := "15a0570c1cd3fc420faa184973af97a21d249d3ed406c16973e5725b7e92778c", func := "example.com/grantline/grantline/zzlaws_pkg_authz_b1.FnFitsAgreesWithPrefixTable", spec := "fnFitsAgreesWithPrefixTable", apart := false }
def FnFitsAgreesWithPrefixTableSaid : Prop := fnFitsAgreesWithPrefixTableRow.holds Try.pinned (OpenSpec.ofChange fnFitsAgreesWithPrefixTableSpec)

/-- ITS FALSE NEIGHBOUR: 'it returns false'. Refute it at one input. -/
def fnFitsAgreesWithPrefixTableWrong : ChangeSpec := { name := "fnFitsAgreesWithPrefixTable", fn := fun _ => fun
  | [d1, d2] => { results := [.lit (.bool false)], args := [d1, d2] }
  | _ => none }
def FnFitsAgreesWithPrefixTableWrongFalsely : Prop := fnFitsAgreesWithPrefixTableRow.holds Try.pinned (OpenSpec.ofChange fnFitsAgreesWithPrefixTableWrong)

/-- 'zzlaws_pkg_authz_b1.FnFitsStarInsertionKeepsFit': WHATEVER THE INPUT: true; the input reads as it did. -/
def fnFitsStarInsertionKeepsFitSpec : ChangeSpec := { name := "fnFitsStarInsertionKeepsFit", fn := fun _ => fun
  | [d1, d2, d3] => { results := [.lit (.bool true)], args := [d1, d2, d3] }
  | _ => none }
def fnFitsStarInsertionKeepsFitRow : OpenClaim := { program := "qxb6601488a", sum := "15a0570c1cd3fc420faa184973af97a21d249d3ed406c16973e5725b7e92778c", func := "example.com/grantline/grantline/zzlaws_pkg_authz_b1.FnFitsStarInsertionKeepsFit", spec := "fnFitsStarInsertionKeepsFit", apart := false }
def FnFitsStarInsertionKeepsFitSaid : Prop := fnFitsStarInsertionKeepsFitRow.holds Try.pinned (OpenSpec.ofChange fnFitsStarInsertionKeepsFitSpec)

/-- ITS FALSE NEIGHBOUR: 'it returns false'. Refute it at one input. -/
def fnFitsStarInsertionKeepsFitWrong : ChangeSpec := { name := "fnFitsStarInsertionKeepsFit", fn := fun _ => fun
  | [d1, d2, d3] => { results := [.lit (.bool false)], args := [d1, d2, d3] }
  | _ => none }
def FnFitsStarInsertionKeepsFitWrongFalsely : Prop := fnFitsStarInsertionKeepsFitRow.holds Try.pinned (OpenSpec.ofChange fnFitsStarInsertionKeepsFitWrong)

/-- 'zzlaws_pkg_authz_b1.FnFitsConcatenationOfFits': WHATEVER THE INPUT: true; the input reads as it did. -/
def fnFitsConcatenationOfFitsSpec : ChangeSpec := { name := "fnFitsConcatenationOfFits", fn := fun _ => fun
  | [d1, d2, d3, d4] => { results := [.lit (.bool true)], args := [d1, d2, d3, d4] }
  | _ => none }
def fnFitsConcatenationOfFitsRow : OpenClaim := { program := "qxb6601488a", sum := "15a0570c1cd3fc420faa184973af97a21d249d3ed406c16973e5725b7e92778c", func := "example.com/grantline/grantline/zzlaws_pkg_authz_b1.FnFitsConcatenationOfFits", spec := "fnFitsConcatenationOfFits", apart := false }
def FnFitsConcatenationOfFitsSaid : Prop := fnFitsConcatenationOfFitsRow.holds Try.pinned (OpenSpec.ofChange fnFitsConcatenationOfFitsSpec)

/-- ITS FALSE NEIGHBOUR: 'it returns false'. Refute it at one input. -/
def fnFitsConcatenationOfFitsWrong : ChangeSpec := { name := "fnFitsConcatenationOfFits", fn := fun _ => fun
  | [d1, d2, d3, d4] => { results := [.lit (.bool false)], args := [d1, d2, d3, d4] }
  | _ => none }
def FnFitsConcatenationOfFitsWrongFalsely : Prop := fnFitsConcatenationOfFitsRow.holds Try.pinned (OpenSpec.ofChange fnFitsConcatenationOfFitsWrong)

/-- 'zzlaws_pkg_authz_b1.FnResourceTextInjectiveForColonFreeTypes': WHATEVER THE INPUT: true; the input reads as it did. -/
def fnResourceTextInjectiveForColonFreeTypesSpec : ChangeSpec := { name := "fnResourceTextInjectiveForColonFreeTypes", fn := fun _ => fun
  | [d1, d2, d3, d4] => { results := [.lit (.bool true)], args := [d1, d2, d3, d4] }
  | _ => none }
def fnResourceTextInjectiveForColonFreeTypesRow : OpenClaim := { program := "qxb6601488a", sum := "15a0570c1cd3fc420faa184973af97a21d249d3ed406c16973e5725b7e92778c", func := "example.com/grantline/grantline/zzlaws_pkg_authz_b1.FnResourceTextInjectiveForColonFreeTypes", spec := "fnResourceTextInjectiveForColonFreeTypes", apart := false }
def FnResourceTextInjectiveForColonFreeTypesSaid : Prop := fnResourceTextInjectiveForColonFreeTypesRow.holds Try.pinned (OpenSpec.ofChange fnResourceTextInjectiveForColonFreeTypesSpec)

/-- ITS FALSE NEIGHBOUR: 'it returns false'. Refute it at one input. -/
def fnResourceTextInjectiveForColonFreeTypesWrong : ChangeSpec := { name := "fnResourceTextInjectiveForColonFreeTypes", fn := fun _ => fun
  | [d1, d2, d3, d4] => { results := [.lit (.bool false)], args := [d1, d2, d3, d4] }
  | _ => none }
def FnResourceTextInjectiveForColonFreeTypesWrongFalsely : Prop := fnResourceTextInjectiveForColonFreeTypesRow.holds Try.pinned (OpenSpec.ofChange fnResourceTextInjectiveForColonFreeTypesWrong)

/-- 'zzlaws_pkg_authz_b1.FnResourceTypeWildcardFitsExactlyNamedOnes': WHATEVER THE INPUT: true; the input reads as it did. -/
def fnResourceTypeWildcardFitsExactlyNamedOnesSpec : ChangeSpec := { name := "fnResourceTypeWildcardFitsExactlyNamedOnes", fn := fun _ => fun
  | [d1, d2] => { results := [.lit (.bool true)], args := [d1, d2] }
  | _ => none }
def fnResourceTypeWildcardFitsExactlyNamedOnesRow : OpenClaim := { program := "qxb6601488a", sum := "15a0570c1cd3fc420faa184973af97a21d249d3ed406c16973e5725b7e92778c", func := "example.com/grantline/grantline/zzlaws_pkg_authz_b1.FnResourceTypeWildcardFitsExactlyNamedOnes", spec := "fnResourceTypeWildcardFitsExactlyNamedOnes", apart := false }
def FnResourceTypeWildcardFitsExactlyNamedOnesSaid : Prop := fnResourceTypeWildcardFitsExactlyNamedOnesRow.holds Try.pinned (OpenSpec.ofChange fnResourceTypeWildcardFitsExactlyNamedOnesSpec)

/-- ITS FALSE NEIGHBOUR: 'it returns false'. Refute it at one input. -/
def fnResourceTypeWildcardFitsExactlyNamedOnesWrong : ChangeSpec := { name := "fnResourceTypeWildcardFitsExactlyNamedOnes", fn := fun _ => fun
  | [d1, d2] => { results := [.lit (.bool false)], args := [d1, d2] }
  | _ => none }
def FnResourceTypeWildcardFitsExactlyNamedOnesWrongFalsely : Prop := fnResourceTypeWildcardFitsExactlyNamedOnesRow.holds Try.pinned (OpenSpec.ofChange fnResourceTypeWildcardFitsExactlyNamedOnesWrong)

end Rows
end Go.Proofs.Qxb6601488a
