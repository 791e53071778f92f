/-
  No cell of these rows narrows 'for every input' (looked for: loops, veiled, ifaces, maps, wideKeys, modest, calm, conditions, laid).
  DERIVED. THE GIVEN ROWS OF THIS SEAT. 6 by the template 'for every input the law returns true; each argument reads behind the call as it read before'; 0 by the template 'total and deterministic' (their statements: Qxb6602003aModsTotals.lean).
  GIVEN WITH THE SEED: the statements are not yours to turn. If you find one false, say at which input.
  Laid BY PROGRAM, IN A SANDBOX (cutbox-rows.mjs): the forced cells as the released guide's own fill.sh prints them over the translation eebd04e5d89fdc96… (all of the seat's roots in one cut). By AI agents, Wed Nov 11 2026. No macro, syntax, notation, axiom, sorry.
-/
import Derived.Test.Qxb6602003aModsChecked
import GoSem.Claim
import GoSem.ClaimJoined
import GoSem.ClaimMapViews
import Derived.JoinedTies
import Derived.KernelRfl
namespace Go.Proofs.Qxb6602003aMods
/- THE CELL 'sum', in the pinned program and in every row, IS THE sha256 OF THE DUMP (.gsa) THAT Qxb6602003aModsProg.lean LOADS. Nothing in Lean hashes anything: it is a label: what it is worth is what the hold of that sum in a sandbox is worth. -/
noncomputable def Trym.pinned : Pinned := { name := "qxb6602003amods", sum := "eebd04e5d89fdc96c9c312fb9dcc13c99116774f6c08817a9ae9d834fb94d73e", checked := Trym.checked }
namespace Rows
def none {H : Type} : Left H := { results := [], args := [] }

/-- 'zzlaws_root_b1.FnValidIdentifiersPrereleaseOnlyNarrows': WHATEVER THE INPUT: true; the input reads as it did. -/
def fnValidIdentifiersPrereleaseOnlyNarrowsSpec : ChangeSpec := { name := "fnValidIdentifiersPrereleaseOnlyNarrows", fn := fun _ => fun
  | [d] => { results := [.lit (.bool true)], args := [d] }
  | _ => none }
def fnValidIdentifiersPrereleaseOnlyNarrowsRow : OpenClaim := { program := "qxb6602003amods", sum := "eebd04e5d89fdc96c9c312fb9dcc13c99116774f6c08817a9ae9d834fb94d73e", func := "example.com/hecate/hecate/zzlaws_root_b1.FnValidIdentifiersPrereleaseOnlyNarrows", spec := "fnValidIdentifiersPrereleaseOnlyNarrows", inPlace := ["internal/bytealg.IndexByteString", "internal/bytealg.IndexString"], named := ["internal/bytealg.MaxLen"], make := .lifted ["publicsums"], apart := false }
def FnValidIdentifiersPrereleaseOnlyNarrowsSaid : Prop := fnValidIdentifiersPrereleaseOnlyNarrowsRow.holds Trym.pinned (OpenSpec.ofChange fnValidIdentifiersPrereleaseOnlyNarrowsSpec)

/-- ITS FALSE NEIGHBOUR: 'it returns false'. Refute it at one input. -/
def fnValidIdentifiersPrereleaseOnlyNarrowsWrong : ChangeSpec := { name := "fnValidIdentifiersPrereleaseOnlyNarrows", fn := fun _ => fun
  | [d] => { results := [.lit (.bool false)], args := [d] }
  | _ => none }
def FnValidIdentifiersPrereleaseOnlyNarrowsWrongFalsely : Prop := fnValidIdentifiersPrereleaseOnlyNarrowsRow.holds Trym.pinned (OpenSpec.ofChange fnValidIdentifiersPrereleaseOnlyNarrowsWrong)

/-- 'zzlaws_root_b1.FnValidIdentifiersJoinAtDot': WHATEVER THE INPUT: true; the input reads as it did. -/
def fnValidIdentifiersJoinAtDotSpec : ChangeSpec := { name := "fnValidIdentifiersJoinAtDot", fn := fun _ => fun
  | [d1, d2, d3] => { results := [.lit (.bool true)], args := [d1, d2, d3] }
  | _ => none }
def fnValidIdentifiersJoinAtDotRow : OpenClaim := { program := "qxb6602003amods", sum := "eebd04e5d89fdc96c9c312fb9dcc13c99116774f6c08817a9ae9d834fb94d73e", func := "example.com/hecate/hecate/zzlaws_root_b1.FnValidIdentifiersJoinAtDot", spec := "fnValidIdentifiersJoinAtDot", inPlace := ["internal/bytealg.IndexByteString", "internal/bytealg.IndexString"], named := ["internal/bytealg.MaxLen"], make := .lifted ["publicsums"], apart := false }
def FnValidIdentifiersJoinAtDotSaid : Prop := fnValidIdentifiersJoinAtDotRow.holds Trym.pinned (OpenSpec.ofChange fnValidIdentifiersJoinAtDotSpec)

/-- ITS FALSE NEIGHBOUR: 'it returns false'. Refute it at one input. -/
def fnValidIdentifiersJoinAtDotWrong : ChangeSpec := { name := "fnValidIdentifiersJoinAtDot", fn := fun _ => fun
  | [d1, d2, d3] => { results := [.lit (.bool false)], args := [d1, d2, d3] }
  | _ => none }
def FnValidIdentifiersJoinAtDotWrongFalsely : Prop := fnValidIdentifiersJoinAtDotRow.holds Trym.pinned (OpenSpec.ofChange fnValidIdentifiersJoinAtDotWrong)

/-- 'zzlaws_root_b1.FnSubstringIndexContainsMatchesPositionScan': WHATEVER THE INPUT: true; the input reads as it did. -/
def fnSubstringIndexContainsMatchesPositionScanSpec : ChangeSpec := { name := "fnSubstringIndexContainsMatchesPositionScan", fn := fun _ => fun
  | [d1, d2, d3, d4] => { results := [.lit (.bool true)], args := [d1, d2, d3, d4] }
  | _ => none }
def fnSubstringIndexContainsMatchesPositionScanRow : OpenClaim := { program := "qxb6602003amods", sum := "eebd04e5d89fdc96c9c312fb9dcc13c99116774f6c08817a9ae9d834fb94d73e", func := "example.com/hecate/hecate/zzlaws_root_b1.FnSubstringIndexContainsMatchesPositionScan", spec := "fnSubstringIndexContainsMatchesPositionScan", make := .lifted ["publicsums"], apart := false }
def FnSubstringIndexContainsMatchesPositionScanSaid : Prop := fnSubstringIndexContainsMatchesPositionScanRow.holds Trym.pinned (OpenSpec.ofChange fnSubstringIndexContainsMatchesPositionScanSpec)

/-- ITS FALSE NEIGHBOUR: 'it returns false'. Refute it at one input. -/
def fnSubstringIndexContainsMatchesPositionScanWrong : ChangeSpec := { name := "fnSubstringIndexContainsMatchesPositionScan", fn := fun _ => fun
  | [d1, d2, d3, d4] => { results := [.lit (.bool false)], args := [d1, d2, d3, d4] }
  | _ => none }
def FnSubstringIndexContainsMatchesPositionScanWrongFalsely : Prop := fnSubstringIndexContainsMatchesPositionScanRow.holds Trym.pinned (OpenSpec.ofChange fnSubstringIndexContainsMatchesPositionScanWrong)

/-- 'zzlaws_root_b1.FnSubstringIndexAgreesWithSearchOfItsValue': WHATEVER THE INPUT: true; the input reads as it did. -/
def fnSubstringIndexAgreesWithSearchOfItsValueSpec : ChangeSpec := { name := "fnSubstringIndexAgreesWithSearchOfItsValue", fn := fun _ => fun
  | [d1, d2] => { results := [.lit (.bool true)], args := [d1, d2] }
  | _ => none }
def fnSubstringIndexAgreesWithSearchOfItsValueRow : OpenClaim := { program := "qxb6602003amods", sum := "eebd04e5d89fdc96c9c312fb9dcc13c99116774f6c08817a9ae9d834fb94d73e", func := "example.com/hecate/hecate/zzlaws_root_b1.FnSubstringIndexAgreesWithSearchOfItsValue", spec := "fnSubstringIndexAgreesWithSearchOfItsValue", make := .lifted ["publicsums"], apart := false }
def FnSubstringIndexAgreesWithSearchOfItsValueSaid : Prop := fnSubstringIndexAgreesWithSearchOfItsValueRow.holds Trym.pinned (OpenSpec.ofChange fnSubstringIndexAgreesWithSearchOfItsValueSpec)

/-- ITS FALSE NEIGHBOUR: 'it returns false'. Refute it at one input. -/
def fnSubstringIndexAgreesWithSearchOfItsValueWrong : ChangeSpec := { name := "fnSubstringIndexAgreesWithSearchOfItsValue", fn := fun _ => fun
  | [d1, d2] => { results := [.lit (.bool false)], args := [d1, d2] }
  | _ => none }
def FnSubstringIndexAgreesWithSearchOfItsValueWrongFalsely : Prop := fnSubstringIndexAgreesWithSearchOfItsValueRow.holds Trym.pinned (OpenSpec.ofChange fnSubstringIndexAgreesWithSearchOfItsValueWrong)

/-- 'zzlaws_root_b1.FnParseVersionMatchesSemverScanner': WHATEVER THE INPUT: true; the input reads as it did. -/
def fnParseVersionMatchesSemverScannerSpec : ChangeSpec := { name := "fnParseVersionMatchesSemverScanner", fn := fun _ => fun
  | [d] => { results := [.lit (.bool true)], args := [d] }
  | _ => none }
def fnParseVersionMatchesSemverScannerRow : OpenClaim := { program := "qxb6602003amods", sum := "eebd04e5d89fdc96c9c312fb9dcc13c99116774f6c08817a9ae9d834fb94d73e", func := "example.com/hecate/hecate/zzlaws_root_b1.FnParseVersionMatchesSemverScanner", spec := "fnParseVersionMatchesSemverScanner", inPlace := ["internal/bytealg.IndexByteString", "internal/bytealg.IndexString"], named := ["internal/bytealg.MaxLen"], make := .lifted ["publicsums"], apart := false }
def FnParseVersionMatchesSemverScannerSaid : Prop := fnParseVersionMatchesSemverScannerRow.holds Trym.pinned (OpenSpec.ofChange fnParseVersionMatchesSemverScannerSpec)

/-- ITS FALSE NEIGHBOUR: 'it returns false'. Refute it at one input. -/
def fnParseVersionMatchesSemverScannerWrong : ChangeSpec := { name := "fnParseVersionMatchesSemverScanner", fn := fun _ => fun
  | [d] => { results := [.lit (.bool false)], args := [d] }
  | _ => none }
def FnParseVersionMatchesSemverScannerWrongFalsely : Prop := fnParseVersionMatchesSemverScannerRow.holds Trym.pinned (OpenSpec.ofChange fnParseVersionMatchesSemverScannerWrong)

/-- 'zzlaws_root_b1.FnParseVersionRebuildsItsText': WHATEVER THE INPUT: true; the input reads as it did. -/
def fnParseVersionRebuildsItsTextSpec : ChangeSpec := { name := "fnParseVersionRebuildsItsText", fn := fun _ => fun
  | [d] => { results := [.lit (.bool true)], args := [d] }
  | _ => none }
def fnParseVersionRebuildsItsTextRow : OpenClaim := { program := "qxb6602003amods", sum := "eebd04e5d89fdc96c9c312fb9dcc13c99116774f6c08817a9ae9d834fb94d73e", func := "example.com/hecate/hecate/zzlaws_root_b1.FnParseVersionRebuildsItsText", spec := "fnParseVersionRebuildsItsText", inPlace := ["internal/bytealg.IndexByteString", "internal/bytealg.IndexString"], named := ["internal/bytealg.MaxLen"], make := .lifted ["publicsums"], apart := false }
def FnParseVersionRebuildsItsTextSaid : Prop := fnParseVersionRebuildsItsTextRow.holds Trym.pinned (OpenSpec.ofChange fnParseVersionRebuildsItsTextSpec)

/-- ITS FALSE NEIGHBOUR: 'it returns false'. Refute it at one input. -/
def fnParseVersionRebuildsItsTextWrong : ChangeSpec := { name := "fnParseVersionRebuildsItsText", fn := fun _ => fun
  | [d] => { results := [.lit (.bool false)], args := [d] }
  | _ => none }
def FnParseVersionRebuildsItsTextWrongFalsely : Prop := fnParseVersionRebuildsItsTextRow.holds Trym.pinned (OpenSpec.ofChange fnParseVersionRebuildsItsTextWrong)

end Rows
end Go.Proofs.Qxb6602003aMods
