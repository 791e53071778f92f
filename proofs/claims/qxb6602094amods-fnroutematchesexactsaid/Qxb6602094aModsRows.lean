/-
  No cell of these rows narrows 'for every input' (looked for: loops, veiled, ifaces, maps, wideKeys, modest, calm, conditions, laid).
  DERIVED. THE GIVEN ROWS OF THIS SEAT. 6 by the template 'for every input the law returns true; each argument reads behind the call as it read before'; 0 by the template 'total and deterministic' (their statements: Qxb6602094aModsTotals.lean).
  GIVEN WITH THE SEED: the statements are not yours to turn. If you find one false, say at which input.
  Laid BY PROGRAM, IN A SANDBOX (cutbox-rows.mjs): the forced cells as the released guide's own fill.sh prints them over the translation 65fa9f785f890b17… (all of the seat's roots in one cut). By AI agents, Wed Nov 11 2026. No macro, syntax, notation, axiom, sorry.
-/
import Derived.Test.Qxb6602094aModsChecked
import GoSem.Claim
import GoSem.ClaimJoined
import GoSem.ClaimMapViews
import Derived.JoinedTies
import Derived.KernelRfl
namespace Go.Proofs.Qxb6602094aMods
/- THE CELL 'sum', in the pinned program and in every row, IS THE sha256 OF THE DUMP (.gsa) THAT Qxb6602094aModsProg.lean LOADS. Nothing in Lean hashes anything: it is a label: what it is worth is what the hold of that sum in a sandbox is worth. -/
noncomputable def Trym.pinned : Pinned := { name := "qxb6602094amods", sum := "65fa9f785f890b178e848943a872b1336ee2c672622dfbfef3617a690f83dad8", checked := Trym.checked }
namespace Rows
def none {H : Type} : Left H := { results := [], args := [] }

/-- 'zzlaws_root_b1.FnIsBareKeyConcat': WHATEVER THE INPUT: true; the input reads as it did. -/
def fnIsBareKeyConcatSpec : ChangeSpec := { name := "fnIsBareKeyConcat", fn := fun _ => fun
  | [d1, d2] => { results := [.lit (.bool true)], args := [d1, d2] }
  | _ => none }
def fnIsBareKeyConcatRow : OpenClaim := { program := "qxb6602094amods", sum := "65fa9f785f890b178e848943a872b1336ee2c672622dfbfef3617a690f83dad8", func := "example.com/onceward/onceward/zzlaws_root_b1.FnIsBareKeyConcat", spec := "fnIsBareKeyConcat", inPlace := ["internal/bytealg.IndexByteString"], make := .lifted ["publicsums"], apart := false }
def FnIsBareKeyConcatSaid : Prop := fnIsBareKeyConcatRow.holds Trym.pinned (OpenSpec.ofChange fnIsBareKeyConcatSpec)

/-- ITS FALSE NEIGHBOUR: 'it returns false'. Refute it at one input. -/
def fnIsBareKeyConcatWrong : ChangeSpec := { name := "fnIsBareKeyConcat", fn := fun _ => fun
  | [d1, d2] => { results := [.lit (.bool false)], args := [d1, d2] }
  | _ => none }
def FnIsBareKeyConcatWrongFalsely : Prop := fnIsBareKeyConcatRow.holds Trym.pinned (OpenSpec.ofChange fnIsBareKeyConcatWrong)

/-- 'zzlaws_root_b1.FnEscapesDotOrSlashExact': WHATEVER THE INPUT: true; the input reads as it did. -/
def fnEscapesDotOrSlashExactSpec : ChangeSpec := { name := "fnEscapesDotOrSlashExact", fn := fun _ => fun
  | [d] => { results := [.lit (.bool true)], args := [d] }
  | _ => none }
def fnEscapesDotOrSlashExactRow : OpenClaim := { program := "qxb6602094amods", sum := "65fa9f785f890b178e848943a872b1336ee2c672622dfbfef3617a690f83dad8", func := "example.com/onceward/onceward/zzlaws_root_b1.FnEscapesDotOrSlashExact", spec := "fnEscapesDotOrSlashExact", inPlace := ["internal/bytealg.IndexByteString"], make := .lifted ["publicsums"], apart := false }
def FnEscapesDotOrSlashExactSaid : Prop := fnEscapesDotOrSlashExactRow.holds Trym.pinned (OpenSpec.ofChange fnEscapesDotOrSlashExactSpec)

/-- ITS FALSE NEIGHBOUR: 'it returns false'. Refute it at one input. -/
def fnEscapesDotOrSlashExactWrong : ChangeSpec := { name := "fnEscapesDotOrSlashExact", fn := fun _ => fun
  | [d] => { results := [.lit (.bool false)], args := [d] }
  | _ => none }
def FnEscapesDotOrSlashExactWrongFalsely : Prop := fnEscapesDotOrSlashExactRow.holds Trym.pinned (OpenSpec.ofChange fnEscapesDotOrSlashExactWrong)

/-- 'zzlaws_root_b1.FnEscapesDotOrSlashConcat': WHATEVER THE INPUT: true; the input reads as it did. -/
def fnEscapesDotOrSlashConcatSpec : ChangeSpec := { name := "fnEscapesDotOrSlashConcat", fn := fun _ => fun
  | [d1, d2] => { results := [.lit (.bool true)], args := [d1, d2] }
  | _ => none }
def fnEscapesDotOrSlashConcatRow : OpenClaim := { program := "qxb6602094amods", sum := "65fa9f785f890b178e848943a872b1336ee2c672622dfbfef3617a690f83dad8", func := "example.com/onceward/onceward/zzlaws_root_b1.FnEscapesDotOrSlashConcat", spec := "fnEscapesDotOrSlashConcat", inPlace := ["internal/bytealg.IndexByteString"], make := .lifted ["publicsums"], apart := false }
def FnEscapesDotOrSlashConcatSaid : Prop := fnEscapesDotOrSlashConcatRow.holds Trym.pinned (OpenSpec.ofChange fnEscapesDotOrSlashConcatSpec)

/-- ITS FALSE NEIGHBOUR: 'it returns false'. Refute it at one input. -/
def fnEscapesDotOrSlashConcatWrong : ChangeSpec := { name := "fnEscapesDotOrSlashConcat", fn := fun _ => fun
  | [d1, d2] => { results := [.lit (.bool false)], args := [d1, d2] }
  | _ => none }
def FnEscapesDotOrSlashConcatWrongFalsely : Prop := fnEscapesDotOrSlashConcatRow.holds Trym.pinned (OpenSpec.ofChange fnEscapesDotOrSlashConcatWrong)

/-- 'zzlaws_root_b1.FnRouteMatchesExact': WHATEVER THE INPUT: true; the input reads as it did. -/
def fnRouteMatchesExactSpec : ChangeSpec := { name := "fnRouteMatchesExact", fn := fun _ => fun
  | [d1, d2, d3, d4, d5, d6] => { results := [.lit (.bool true)], args := [d1, d2, d3, d4, d5, d6] }
  | _ => none }
def fnRouteMatchesExactRow : OpenClaim := { program := "qxb6602094amods", sum := "65fa9f785f890b178e848943a872b1336ee2c672622dfbfef3617a690f83dad8", func := "example.com/onceward/onceward/zzlaws_root_b1.FnRouteMatchesExact", spec := "fnRouteMatchesExact", make := .lifted ["publicsums"], apart := false }
def FnRouteMatchesExactSaid : Prop := fnRouteMatchesExactRow.holds Trym.pinned (OpenSpec.ofChange fnRouteMatchesExactSpec)

/-- ITS FALSE NEIGHBOUR: 'it returns false'. Refute it at one input. -/
def fnRouteMatchesExactWrong : ChangeSpec := { name := "fnRouteMatchesExact", fn := fun _ => fun
  | [d1, d2, d3, d4, d5, d6] => { results := [.lit (.bool false)], args := [d1, d2, d3, d4, d5, d6] }
  | _ => none }
def FnRouteMatchesExactWrongFalsely : Prop := fnRouteMatchesExactRow.holds Trym.pinned (OpenSpec.ofChange fnRouteMatchesExactWrong)

/-- 'zzlaws_root_b1.FnRouteMatchesTrailingSlash': WHATEVER THE INPUT: true; the input reads as it did. -/
def fnRouteMatchesTrailingSlashSpec : ChangeSpec := { name := "fnRouteMatchesTrailingSlash", fn := fun _ => fun
  | [d1, d2, d3, d4, d5, d6] => { results := [.lit (.bool true)], args := [d1, d2, d3, d4, d5, d6] }
  | _ => none }
def fnRouteMatchesTrailingSlashRow : OpenClaim := { program := "qxb6602094amods", sum := "65fa9f785f890b178e848943a872b1336ee2c672622dfbfef3617a690f83dad8", func := "example.com/onceward/onceward/zzlaws_root_b1.FnRouteMatchesTrailingSlash", spec := "fnRouteMatchesTrailingSlash", make := .lifted ["publicsums"], apart := false }
def FnRouteMatchesTrailingSlashSaid : Prop := fnRouteMatchesTrailingSlashRow.holds Trym.pinned (OpenSpec.ofChange fnRouteMatchesTrailingSlashSpec)

/-- ITS FALSE NEIGHBOUR: 'it returns false'. Refute it at one input. -/
def fnRouteMatchesTrailingSlashWrong : ChangeSpec := { name := "fnRouteMatchesTrailingSlash", fn := fun _ => fun
  | [d1, d2, d3, d4, d5, d6] => { results := [.lit (.bool false)], args := [d1, d2, d3, d4, d5, d6] }
  | _ => none }
def FnRouteMatchesTrailingSlashWrongFalsely : Prop := fnRouteMatchesTrailingSlashRow.holds Trym.pinned (OpenSpec.ofChange fnRouteMatchesTrailingSlashWrong)

/-- 'zzlaws_root_b1.FnRouteMatchesWildcardSubtree': WHATEVER THE INPUT: true; the input reads as it did. -/
def fnRouteMatchesWildcardSubtreeSpec : ChangeSpec := { name := "fnRouteMatchesWildcardSubtree", fn := fun _ => fun
  | [d1, d2, d3, d4, d5, d6] => { results := [.lit (.bool true)], args := [d1, d2, d3, d4, d5, d6] }
  | _ => none }
def fnRouteMatchesWildcardSubtreeRow : OpenClaim := { program := "qxb6602094amods", sum := "65fa9f785f890b178e848943a872b1336ee2c672622dfbfef3617a690f83dad8", func := "example.com/onceward/onceward/zzlaws_root_b1.FnRouteMatchesWildcardSubtree", spec := "fnRouteMatchesWildcardSubtree", make := .lifted ["publicsums"], apart := false }
def FnRouteMatchesWildcardSubtreeSaid : Prop := fnRouteMatchesWildcardSubtreeRow.holds Trym.pinned (OpenSpec.ofChange fnRouteMatchesWildcardSubtreeSpec)

/-- ITS FALSE NEIGHBOUR: 'it returns false'. Refute it at one input. -/
def fnRouteMatchesWildcardSubtreeWrong : ChangeSpec := { name := "fnRouteMatchesWildcardSubtree", fn := fun _ => fun
  | [d1, d2, d3, d4, d5, d6] => { results := [.lit (.bool false)], args := [d1, d2, d3, d4, d5, d6] }
  | _ => none }
def FnRouteMatchesWildcardSubtreeWrongFalsely : Prop := fnRouteMatchesWildcardSubtreeRow.holds Trym.pinned (OpenSpec.ofChange fnRouteMatchesWildcardSubtreeWrong)

end Rows
end Go.Proofs.Qxb6602094aMods
