/-
  No cell of these rows narrows 'for every input' (looked for: loops, veiled, ifaces, maps, wideKeys, modest, calm, conditions, laid).
  DERIVED. THE GIVEN ROWS OF THIS SEAT. 2 by the template 'for every input the law returns true; each argument reads behind the call as it read before'; 0 by the template 'total and deterministic' (their statements: Qxb6602309aModsTotals.lean).
  GIVEN WITH THE SEED: the statements are not yours to turn. If you find one false, say at which input.
  Laid BY PROGRAM, IN A SANDBOX (cutbox-rows.mjs): the forced cells as the released guide's own fill.sh prints them over the translation 60aa3f1bf5552417… (all of the seat's roots in one cut). By AI agents, Wed Nov 11 2026. No macro, syntax, notation, axiom, sorry.
-/
import Derived.Test.Qxb6602309aModsChecked
import GoSem.Claim
import GoSem.ClaimJoined
import GoSem.ClaimMapViews
import Derived.JoinedTies
import Derived.KernelRfl
namespace Go.Proofs.Qxb6602309aMods
/- THE CELL 'sum', in the pinned program and in every row, IS THE sha256 OF THE DUMP (.gsa) THAT Qxb6602309aModsProg.lean LOADS. Nothing in Lean hashes anything: it is a label: what it is worth is what the hold of that sum in a sandbox is worth. -/
noncomputable def Trym.pinned : Pinned := { name := "qxb6602309amods", sum := "60aa3f1bf5552417afde8961dc1a7b1a746b35723537e26c3d9c0402f8edfbf3", checked := Trym.checked }
namespace Rows
def none {H : Type} : Left H := { results := [], args := [] }

/-- 'zzlaws_danger_b1.FnFindArgumentsMatchesSpec': WHATEVER THE INPUT: true; the input reads as it did. -/
def fnFindArgumentsMatchesSpecSpec : ChangeSpec := { name := "fnFindArgumentsMatchesSpec", fn := fun _ => fun
  | [d] => { results := [.lit (.bool true)], args := [d] }
  | _ => none }
def fnFindArgumentsMatchesSpecRow : OpenClaim := { program := "qxb6602309amods", sum := "60aa3f1bf5552417afde8961dc1a7b1a746b35723537e26c3d9c0402f8edfbf3", func := "example.com/intentline/intentline/zzlaws_danger_b1.FnFindArgumentsMatchesSpec", spec := "fnFindArgumentsMatchesSpec", make := .lifted ["publicsums"], apart := false }
def FnFindArgumentsMatchesSpecSaid : Prop := fnFindArgumentsMatchesSpecRow.holds Trym.pinned (OpenSpec.ofChange fnFindArgumentsMatchesSpecSpec)

/-- ITS FALSE NEIGHBOUR: 'it returns false'. Refute it at one input. -/
def fnFindArgumentsMatchesSpecWrong : ChangeSpec := { name := "fnFindArgumentsMatchesSpec", fn := fun _ => fun
  | [d] => { results := [.lit (.bool false)], args := [d] }
  | _ => none }
def FnFindArgumentsMatchesSpecWrongFalsely : Prop := fnFindArgumentsMatchesSpecRow.holds Trym.pinned (OpenSpec.ofChange fnFindArgumentsMatchesSpecWrong)

/-- 'zzlaws_danger_b1.FnFindArgumentsIgnoresParts': WHATEVER THE INPUT: true; the input reads as it did. -/
def fnFindArgumentsIgnoresPartsSpec : ChangeSpec := { name := "fnFindArgumentsIgnoresParts", fn := fun _ => fun
  | [d] => { results := [.lit (.bool true)], args := [d] }
  | _ => none }
def fnFindArgumentsIgnoresPartsRow : OpenClaim := { program := "qxb6602309amods", sum := "60aa3f1bf5552417afde8961dc1a7b1a746b35723537e26c3d9c0402f8edfbf3", func := "example.com/intentline/intentline/zzlaws_danger_b1.FnFindArgumentsIgnoresParts", spec := "fnFindArgumentsIgnoresParts", make := .lifted ["publicsums"], apart := false }
def FnFindArgumentsIgnoresPartsSaid : Prop := fnFindArgumentsIgnoresPartsRow.holds Trym.pinned (OpenSpec.ofChange fnFindArgumentsIgnoresPartsSpec)

/-- ITS FALSE NEIGHBOUR: 'it returns false'. Refute it at one input. -/
def fnFindArgumentsIgnoresPartsWrong : ChangeSpec := { name := "fnFindArgumentsIgnoresParts", fn := fun _ => fun
  | [d] => { results := [.lit (.bool false)], args := [d] }
  | _ => none }
def FnFindArgumentsIgnoresPartsWrongFalsely : Prop := fnFindArgumentsIgnoresPartsRow.holds Trym.pinned (OpenSpec.ofChange fnFindArgumentsIgnoresPartsWrong)

end Rows
end Go.Proofs.Qxb6602309aMods
