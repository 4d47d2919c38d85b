/-
  No cell of these rows narrows 'for every input' (looked for: loops, veiled, ifaces, maps, wideKeys, modest, calm, conditions, laid).
  DERIVED. THE GIVEN ROWS OF THIS SEAT. 5 by the template 'for every input the law returns true; each argument reads behind the call as it read before'; 0 by the template 'total and deterministic' (their statements: Qxb6000679aTotals.lean).
  GIVEN WITH THE SEED: the statements are not yours to turn. If you find one false, say at which input.
  Laid BY PROGRAM, IN A SANDBOX (cutbox-rows.mjs): the forced cells as the released guide's own fill.sh prints them over the translation c8ea0f1cfb508d51… (all of the seat's roots in one cut). By AI agents, Wed Nov 11 2026. No macro, syntax, notation, axiom, sorry.
-/
import Derived.Test.Qxb6000679aChecked
import GoSem.Claim
import GoSem.ClaimJoined
import GoSem.ClaimMapViews
import Derived.JoinedTies
import Derived.KernelRfl
namespace Go.Proofs.Qxb6000679a
/- THE CELL 'sum', in the pinned program and in every row, IS THE sha256 OF THE DUMP (.gsa) THAT Qxb6000679aProg.lean LOADS. Nothing in Lean hashes anything: it is a label: what it is worth is what the hold of that sum in a sandbox is worth. -/
noncomputable def Try.pinned : Pinned := { name := "qxb6000679a", sum := "c8ea0f1cfb508d51632cb4ac93ffc435733c2a8f89bcb9d2436cfa0a624e37f6", checked := Try.checked }
namespace Rows
def none {H : Type} : Left H := { results := [], args := [] }

/-- 'zzlaws_pkg_usage_b1.FnSpaceStopsAtFirstNonSpace': WHATEVER THE INPUT: true; the input reads as it did. -/
def fnSpaceStopsAtFirstNonSpaceSpec : ChangeSpec := { name := "fnSpaceStopsAtFirstNonSpace", fn := fun _ => fun
  | [d1, d2] => { results := [.lit (.bool true)], args := [d1, d2] }
  | _ => none }
def fnSpaceStopsAtFirstNonSpaceRow : OpenClaim := { program := "qxb6000679a", sum := "c8ea0f1cfb508d51632cb4ac93ffc435733c2a8f89bcb9d2436cfa0a624e37f6", func := "example.com/covenant/covenant/zzlaws_pkg_usage_b1.FnSpaceStopsAtFirstNonSpace", spec := "fnSpaceStopsAtFirstNonSpace", apart := false }
def FnSpaceStopsAtFirstNonSpaceSaid : Prop := fnSpaceStopsAtFirstNonSpaceRow.holds Try.pinned (OpenSpec.ofChange fnSpaceStopsAtFirstNonSpaceSpec)

/-- ITS FALSE NEIGHBOUR: 'it returns false'. Refute it at one input. -/
def fnSpaceStopsAtFirstNonSpaceWrong : ChangeSpec := { name := "fnSpaceStopsAtFirstNonSpace", fn := fun _ => fun
  | [d1, d2] => { results := [.lit (.bool false)], args := [d1, d2] }
  | _ => none }
def FnSpaceStopsAtFirstNonSpaceWrongFalsely : Prop := fnSpaceStopsAtFirstNonSpaceRow.holds Try.pinned (OpenSpec.ofChange fnSpaceStopsAtFirstNonSpaceWrong)

/-- 'zzlaws_pkg_usage_b1.FnSpaceMonotoneAndSettled': WHATEVER THE INPUT: true; the input reads as it did. -/
def fnSpaceMonotoneAndSettledSpec : ChangeSpec := { name := "fnSpaceMonotoneAndSettled", fn := fun _ => fun
  | [d1, d2, d3] => { results := [.lit (.bool true)], args := [d1, d2, d3] }
  | _ => none }
def fnSpaceMonotoneAndSettledRow : OpenClaim := { program := "qxb6000679a", sum := "c8ea0f1cfb508d51632cb4ac93ffc435733c2a8f89bcb9d2436cfa0a624e37f6", func := "example.com/covenant/covenant/zzlaws_pkg_usage_b1.FnSpaceMonotoneAndSettled", spec := "fnSpaceMonotoneAndSettled", apart := false }
def FnSpaceMonotoneAndSettledSaid : Prop := fnSpaceMonotoneAndSettledRow.holds Try.pinned (OpenSpec.ofChange fnSpaceMonotoneAndSettledSpec)

/-- ITS FALSE NEIGHBOUR: 'it returns false'. Refute it at one input. -/
def fnSpaceMonotoneAndSettledWrong : ChangeSpec := { name := "fnSpaceMonotoneAndSettled", fn := fun _ => fun
  | [d1, d2, d3] => { results := [.lit (.bool false)], args := [d1, d2, d3] }
  | _ => none }
def FnSpaceMonotoneAndSettledWrongFalsely : Prop := fnSpaceMonotoneAndSettledRow.holds Try.pinned (OpenSpec.ofChange fnSpaceMonotoneAndSettledWrong)

/-- 'zzlaws_pkg_usage_b1.FnSkipNumberMatchesAutomaton': WHATEVER THE INPUT: true; the input reads as it did. -/
def fnSkipNumberMatchesAutomatonSpec : ChangeSpec := { name := "fnSkipNumberMatchesAutomaton", fn := fun _ => fun
  | [d1, d2] => { results := [.lit (.bool true)], args := [d1, d2] }
  | _ => none }
def fnSkipNumberMatchesAutomatonRow : OpenClaim := { program := "qxb6000679a", sum := "c8ea0f1cfb508d51632cb4ac93ffc435733c2a8f89bcb9d2436cfa0a624e37f6", func := "example.com/covenant/covenant/zzlaws_pkg_usage_b1.FnSkipNumberMatchesAutomaton", spec := "fnSkipNumberMatchesAutomaton", apart := false }
def FnSkipNumberMatchesAutomatonSaid : Prop := fnSkipNumberMatchesAutomatonRow.holds Try.pinned (OpenSpec.ofChange fnSkipNumberMatchesAutomatonSpec)

/-- ITS FALSE NEIGHBOUR: 'it returns false'. Refute it at one input. -/
def fnSkipNumberMatchesAutomatonWrong : ChangeSpec := { name := "fnSkipNumberMatchesAutomaton", fn := fun _ => fun
  | [d1, d2] => { results := [.lit (.bool false)], args := [d1, d2] }
  | _ => none }
def FnSkipNumberMatchesAutomatonWrongFalsely : Prop := fnSkipNumberMatchesAutomatonRow.holds Try.pinned (OpenSpec.ofChange fnSkipNumberMatchesAutomatonWrong)

/-- 'zzlaws_pkg_usage_b1.FnSkipNumberDependsOnlyOnTail': WHATEVER THE INPUT: true; the input reads as it did. -/
def fnSkipNumberDependsOnlyOnTailSpec : ChangeSpec := { name := "fnSkipNumberDependsOnlyOnTail", fn := fun _ => fun
  | [d1, d2] => { results := [.lit (.bool true)], args := [d1, d2] }
  | _ => none }
def fnSkipNumberDependsOnlyOnTailRow : OpenClaim := { program := "qxb6000679a", sum := "c8ea0f1cfb508d51632cb4ac93ffc435733c2a8f89bcb9d2436cfa0a624e37f6", func := "example.com/covenant/covenant/zzlaws_pkg_usage_b1.FnSkipNumberDependsOnlyOnTail", spec := "fnSkipNumberDependsOnlyOnTail", apart := false }
def FnSkipNumberDependsOnlyOnTailSaid : Prop := fnSkipNumberDependsOnlyOnTailRow.holds Try.pinned (OpenSpec.ofChange fnSkipNumberDependsOnlyOnTailSpec)

/-- ITS FALSE NEIGHBOUR: 'it returns false'. Refute it at one input. -/
def fnSkipNumberDependsOnlyOnTailWrong : ChangeSpec := { name := "fnSkipNumberDependsOnlyOnTail", fn := fun _ => fun
  | [d1, d2] => { results := [.lit (.bool false)], args := [d1, d2] }
  | _ => none }
def FnSkipNumberDependsOnlyOnTailWrongFalsely : Prop := fnSkipNumberDependsOnlyOnTailRow.holds Try.pinned (OpenSpec.ofChange fnSkipNumberDependsOnlyOnTailWrong)

/-- 'zzlaws_pkg_usage_b1.FnSkipNumberReadNumberStandsAlone': WHATEVER THE INPUT: true; the input reads as it did. -/
def fnSkipNumberReadNumberStandsAloneSpec : ChangeSpec := { name := "fnSkipNumberReadNumberStandsAlone", fn := fun _ => fun
  | [d1, d2] => { results := [.lit (.bool true)], args := [d1, d2] }
  | _ => none }
def fnSkipNumberReadNumberStandsAloneRow : OpenClaim := { program := "qxb6000679a", sum := "c8ea0f1cfb508d51632cb4ac93ffc435733c2a8f89bcb9d2436cfa0a624e37f6", func := "example.com/covenant/covenant/zzlaws_pkg_usage_b1.FnSkipNumberReadNumberStandsAlone", spec := "fnSkipNumberReadNumberStandsAlone", apart := false }
def FnSkipNumberReadNumberStandsAloneSaid : Prop := fnSkipNumberReadNumberStandsAloneRow.holds Try.pinned (OpenSpec.ofChange fnSkipNumberReadNumberStandsAloneSpec)

/-- ITS FALSE NEIGHBOUR: 'it returns false'. Refute it at one input. -/
def fnSkipNumberReadNumberStandsAloneWrong : ChangeSpec := { name := "fnSkipNumberReadNumberStandsAlone", fn := fun _ => fun
  | [d1, d2] => { results := [.lit (.bool false)], args := [d1, d2] }
  | _ => none }
def FnSkipNumberReadNumberStandsAloneWrongFalsely : Prop := fnSkipNumberReadNumberStandsAloneRow.holds Try.pinned (OpenSpec.ofChange fnSkipNumberReadNumberStandsAloneWrong)

end Rows
end Go.Proofs.Qxb6000679a
