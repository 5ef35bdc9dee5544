/-
  No cell of these rows narrows 'for every input' (looked for: loops, veiled, ifaces, maps, wideKeys, modest, calm, conditions, laid).
  DERIVED. THE GIVEN ROWS OF THIS SEAT. 5 by the template 'for every input the law returns true; each argument reads behind the call as it read before'; 0 by the template 'total and deterministic' (their statements: Qxb6603013aTotals.lean).
  GIVEN WITH THE SEED: the statements are not yours to turn. If you find one false, say at which input.
  Laid BY PROGRAM, IN A SANDBOX (cutbox-rows.mjs): the forced cells as the released guide's own fill.sh prints them over the translation ddb4dc23074d5b15… (all of the seat's roots in one cut). By AI agents, Wed Nov 11 2026. No macro, syntax, notation, axiom, sorry.
-/
import Derived.Test.Qxb6603013aChecked
import GoSem.Claim
import GoSem.ClaimJoined
import GoSem.ClaimMapViews
import Derived.JoinedTies
import Derived.KernelRfl
namespace Go.Proofs.Qxb6603013a
/- THE CELL 'sum', in the pinned program and in every row, IS THE sha256 OF THE DUMP (.gsa) THAT Qxb6603013aProg.lean LOADS. Nothing in Lean hashes anything: it is a label: what it is worth is what the hold of that sum in a sandbox is worth. -/
noncomputable def Try.pinned : Pinned := { name := "qxb6603013a", sum := "ddb4dc23074d5b1504b6724704c7d939e35386387dc6c2405defde8cbe6faecf", checked := Try.checked }
namespace Rows
def none {H : Type} : Left H := { results := [], args := [] }

/-- 'zzlaws_internal_report_b1.FnHex4Spec': WHATEVER THE INPUT: true; the input reads as it did. -/
def fnHex4SpecSpec : ChangeSpec := { name := "fnHex4Spec", fn := fun _ => fun
  | [d] => { results := [.lit (.bool true)], args := [d] }
  | _ => none }
def fnHex4SpecRow : OpenClaim := { program := "qxb6603013a", sum := "ddb4dc23074d5b1504b6724704c7d939e35386387dc6c2405defde8cbe6faecf", func := "example.com/tend/tend/zzlaws_internal_report_b1.FnHex4Spec", spec := "fnHex4Spec", apart := false }
def FnHex4SpecSaid : Prop := fnHex4SpecRow.holds Try.pinned (OpenSpec.ofChange fnHex4SpecSpec)

/-- ITS FALSE NEIGHBOUR: 'it returns false'. Refute it at one input. -/
def fnHex4SpecWrong : ChangeSpec := { name := "fnHex4Spec", fn := fun _ => fun
  | [d] => { results := [.lit (.bool false)], args := [d] }
  | _ => none }
def FnHex4SpecWrongFalsely : Prop := fnHex4SpecRow.holds Try.pinned (OpenSpec.ofChange fnHex4SpecWrong)

/-- 'zzlaws_internal_report_b1.FnHex4RoundTrip': WHATEVER THE INPUT: true; the input reads as it did. -/
def fnHex4RoundTripSpec : ChangeSpec := { name := "fnHex4RoundTrip", fn := fun _ => fun
  | [d1, d2, d3] => { results := [.lit (.bool true)], args := [d1, d2, d3] }
  | _ => none }
def fnHex4RoundTripRow : OpenClaim := { program := "qxb6603013a", sum := "ddb4dc23074d5b1504b6724704c7d939e35386387dc6c2405defde8cbe6faecf", func := "example.com/tend/tend/zzlaws_internal_report_b1.FnHex4RoundTrip", spec := "fnHex4RoundTrip", apart := false }
def FnHex4RoundTripSaid : Prop := fnHex4RoundTripRow.holds Try.pinned (OpenSpec.ofChange fnHex4RoundTripSpec)

/-- ITS FALSE NEIGHBOUR: 'it returns false'. Refute it at one input. -/
def fnHex4RoundTripWrong : ChangeSpec := { name := "fnHex4RoundTrip", fn := fun _ => fun
  | [d1, d2, d3] => { results := [.lit (.bool false)], args := [d1, d2, d3] }
  | _ => none }
def FnHex4RoundTripWrongFalsely : Prop := fnHex4RoundTripRow.holds Try.pinned (OpenSpec.ofChange fnHex4RoundTripWrong)

/-- 'zzlaws_internal_report_b1.FnStepGrammar': WHATEVER THE INPUT: true; the input reads as it did. -/
def fnStepGrammarSpec : ChangeSpec := { name := "fnStepGrammar", fn := fun _ => fun
  | [d1, d2] => { results := [.lit (.bool true)], args := [d1, d2] }
  | _ => none }
def fnStepGrammarRow : OpenClaim := { program := "qxb6603013a", sum := "ddb4dc23074d5b1504b6724704c7d939e35386387dc6c2405defde8cbe6faecf", func := "example.com/tend/tend/zzlaws_internal_report_b1.FnStepGrammar", spec := "fnStepGrammar", apart := false }
def FnStepGrammarSaid : Prop := fnStepGrammarRow.holds Try.pinned (OpenSpec.ofChange fnStepGrammarSpec)

/-- ITS FALSE NEIGHBOUR: 'it returns false'. Refute it at one input. -/
def fnStepGrammarWrong : ChangeSpec := { name := "fnStepGrammar", fn := fun _ => fun
  | [d1, d2] => { results := [.lit (.bool false)], args := [d1, d2] }
  | _ => none }
def FnStepGrammarWrongFalsely : Prop := fnStepGrammarRow.holds Try.pinned (OpenSpec.ofChange fnStepGrammarWrong)

/-- 'zzlaws_internal_report_b1.FnStepScansNumberPrefixes': WHATEVER THE INPUT: true; the input reads as it did. -/
def fnStepScansNumberPrefixesSpec : ChangeSpec := { name := "fnStepScansNumberPrefixes", fn := fun _ => fun
  | [d] => { results := [.lit (.bool true)], args := [d] }
  | _ => none }
def fnStepScansNumberPrefixesRow : OpenClaim := { program := "qxb6603013a", sum := "ddb4dc23074d5b1504b6724704c7d939e35386387dc6c2405defde8cbe6faecf", func := "example.com/tend/tend/zzlaws_internal_report_b1.FnStepScansNumberPrefixes", spec := "fnStepScansNumberPrefixes", apart := false }
def FnStepScansNumberPrefixesSaid : Prop := fnStepScansNumberPrefixesRow.holds Try.pinned (OpenSpec.ofChange fnStepScansNumberPrefixesSpec)

/-- ITS FALSE NEIGHBOUR: 'it returns false'. Refute it at one input. -/
def fnStepScansNumberPrefixesWrong : ChangeSpec := { name := "fnStepScansNumberPrefixes", fn := fun _ => fun
  | [d] => { results := [.lit (.bool false)], args := [d] }
  | _ => none }
def FnStepScansNumberPrefixesWrongFalsely : Prop := fnStepScansNumberPrefixesRow.holds Try.pinned (OpenSpec.ofChange fnStepScansNumberPrefixesWrong)

/-- 'zzlaws_internal_report_b1.FnEventsInFetchOrder': WHATEVER THE INPUT: true; the input reads as it did. -/
def fnEventsInFetchOrderSpec : ChangeSpec := { name := "fnEventsInFetchOrder", fn := fun _ => fun
  | [d1, d2] => { results := [.lit (.bool true)], args := [d1, d2] }
  | _ => none }
def fnEventsInFetchOrderRow : OpenClaim := { program := "qxb6603013a", sum := "ddb4dc23074d5b1504b6724704c7d939e35386387dc6c2405defde8cbe6faecf", func := "example.com/tend/tend/zzlaws_internal_report_b1.FnEventsInFetchOrder", spec := "fnEventsInFetchOrder", apart := false }
def FnEventsInFetchOrderSaid : Prop := fnEventsInFetchOrderRow.holds Try.pinned (OpenSpec.ofChange fnEventsInFetchOrderSpec)

/-- ITS FALSE NEIGHBOUR: 'it returns false'. Refute it at one input. -/
def fnEventsInFetchOrderWrong : ChangeSpec := { name := "fnEventsInFetchOrder", fn := fun _ => fun
  | [d1, d2] => { results := [.lit (.bool false)], args := [d1, d2] }
  | _ => none }
def FnEventsInFetchOrderWrongFalsely : Prop := fnEventsInFetchOrderRow.holds Try.pinned (OpenSpec.ofChange fnEventsInFetchOrderWrong)

end Rows
end Go.Proofs.Qxb6603013a
