/-
  No cell of these rows narrows 'for every input' (looked for: loops, veiled, ifaces, maps, wideKeys, modest, calm, conditions, laid).
  DERIVED. THE GIVEN ROWS OF THIS SEAT. 3 by the template 'for every input the law returns true; each argument reads behind the call as it read before'; 0 by the template 'total and deterministic' (their statements: Qxb6602267aModsTotals.lean).
  GIVEN WITH THE SEED: the statements are not yours to turn. If you find one false, say at which input.
  Laid BY PROGRAM, IN A SANDBOX (cutbox-rows.mjs): the forced cells as the released guide's own fill.sh prints them over the translation 7243aa1057fb7c3b… (all of the seat's roots in one cut). By AI agents, Wed Nov 11 2026. No macro, syntax, notation, axiom, sorry.
-/
import Derived.Test.Qxb6602267aModsChecked
import GoSem.Claim
import GoSem.ClaimJoined
import GoSem.ClaimMapViews
import Derived.JoinedTies
import Derived.KernelRfl
namespace Go.Proofs.Qxb6602267aMods
/- THE CELL 'sum', in the pinned program and in every row, IS THE sha256 OF THE DUMP (.gsa) THAT Qxb6602267aModsProg.lean LOADS. Nothing in Lean hashes anything: it is a label: what it is worth is what the hold of that sum in a sandbox is worth. -/
noncomputable def Trym.pinned : Pinned := { name := "qxb6602267amods", sum := "7243aa1057fb7c3bce90b4ea10d5b49ddfbeb0bfcc1ba5b66abe2421404a67a1", checked := Trym.checked }
namespace Rows
def none {H : Type} : Left H := { results := [], args := [] }

/-- 'zzlaws_internal_cache_b1.FnHoldsMatchesIntervalModel': WHATEVER THE INPUT: true; the input reads as it did. -/
def fnHoldsMatchesIntervalModelSpec : ChangeSpec := { name := "fnHoldsMatchesIntervalModel", fn := fun _ => fun
  | [d1, d2, d3, d4] => { results := [.lit (.bool true)], args := [d1, d2, d3, d4] }
  | _ => none }
def fnHoldsMatchesIntervalModelRow : OpenClaim := { program := "qxb6602267amods", sum := "7243aa1057fb7c3bce90b4ea10d5b49ddfbeb0bfcc1ba5b66abe2421404a67a1", func := "example.com/watchglass/watchglass/zzlaws_internal_cache_b1.FnHoldsMatchesIntervalModel", spec := "fnHoldsMatchesIntervalModel", make := .lifted ["publicsums"], apart := false }
def FnHoldsMatchesIntervalModelSaid : Prop := fnHoldsMatchesIntervalModelRow.holds Trym.pinned (OpenSpec.ofChange fnHoldsMatchesIntervalModelSpec)

/-- ITS FALSE NEIGHBOUR: 'it returns false'. Refute it at one input. -/
def fnHoldsMatchesIntervalModelWrong : ChangeSpec := { name := "fnHoldsMatchesIntervalModel", fn := fun _ => fun
  | [d1, d2, d3, d4] => { results := [.lit (.bool false)], args := [d1, d2, d3, d4] }
  | _ => none }
def FnHoldsMatchesIntervalModelWrongFalsely : Prop := fnHoldsMatchesIntervalModelRow.holds Trym.pinned (OpenSpec.ofChange fnHoldsMatchesIntervalModelWrong)

/-- 'zzlaws_internal_cache_b1.FnHoldsItselfExactlyWhenNotEmpty': WHATEVER THE INPUT: true; the input reads as it did. -/
def fnHoldsItselfExactlyWhenNotEmptySpec : ChangeSpec := { name := "fnHoldsItselfExactlyWhenNotEmpty", fn := fun _ => fun
  | [d1, d2] => { results := [.lit (.bool true)], args := [d1, d2] }
  | _ => none }
def fnHoldsItselfExactlyWhenNotEmptyRow : OpenClaim := { program := "qxb6602267amods", sum := "7243aa1057fb7c3bce90b4ea10d5b49ddfbeb0bfcc1ba5b66abe2421404a67a1", func := "example.com/watchglass/watchglass/zzlaws_internal_cache_b1.FnHoldsItselfExactlyWhenNotEmpty", spec := "fnHoldsItselfExactlyWhenNotEmpty", make := .lifted ["publicsums"], apart := false }
def FnHoldsItselfExactlyWhenNotEmptySaid : Prop := fnHoldsItselfExactlyWhenNotEmptyRow.holds Trym.pinned (OpenSpec.ofChange fnHoldsItselfExactlyWhenNotEmptySpec)

/-- ITS FALSE NEIGHBOUR: 'it returns false'. Refute it at one input. -/
def fnHoldsItselfExactlyWhenNotEmptyWrong : ChangeSpec := { name := "fnHoldsItselfExactlyWhenNotEmpty", fn := fun _ => fun
  | [d1, d2] => { results := [.lit (.bool false)], args := [d1, d2] }
  | _ => none }
def FnHoldsItselfExactlyWhenNotEmptyWrongFalsely : Prop := fnHoldsItselfExactlyWhenNotEmptyRow.holds Trym.pinned (OpenSpec.ofChange fnHoldsItselfExactlyWhenNotEmptyWrong)

/-- 'zzlaws_internal_cache_b1.FnHoldsTransitive': WHATEVER THE INPUT: true; the input reads as it did. -/
def fnHoldsTransitiveSpec : ChangeSpec := { name := "fnHoldsTransitive", fn := fun _ => fun
  | [d1, d2, d3, d4, d5, d6] => { results := [.lit (.bool true)], args := [d1, d2, d3, d4, d5, d6] }
  | _ => none }
def fnHoldsTransitiveRow : OpenClaim := { program := "qxb6602267amods", sum := "7243aa1057fb7c3bce90b4ea10d5b49ddfbeb0bfcc1ba5b66abe2421404a67a1", func := "example.com/watchglass/watchglass/zzlaws_internal_cache_b1.FnHoldsTransitive", spec := "fnHoldsTransitive", make := .lifted ["publicsums"], apart := false }
def FnHoldsTransitiveSaid : Prop := fnHoldsTransitiveRow.holds Trym.pinned (OpenSpec.ofChange fnHoldsTransitiveSpec)

/-- ITS FALSE NEIGHBOUR: 'it returns false'. Refute it at one input. -/
def fnHoldsTransitiveWrong : ChangeSpec := { name := "fnHoldsTransitive", fn := fun _ => fun
  | [d1, d2, d3, d4, d5, d6] => { results := [.lit (.bool false)], args := [d1, d2, d3, d4, d5, d6] }
  | _ => none }
def FnHoldsTransitiveWrongFalsely : Prop := fnHoldsTransitiveRow.holds Trym.pinned (OpenSpec.ofChange fnHoldsTransitiveWrong)

end Rows
end Go.Proofs.Qxb6602267aMods
