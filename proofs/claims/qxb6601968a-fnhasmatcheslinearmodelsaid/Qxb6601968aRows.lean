/-
  No cell of these rows narrows 'for every input' (looked for: loops, veiled, ifaces, maps, wideKeys, modest, calm, conditions, laid).
  DERIVED. THE GIVEN ROWS OF THIS SEAT. 5 by the template 'for every input the law returns true; each argument reads behind the call as it read before'; 0 by the template 'total and deterministic' (their statements: Qxb6601968aTotals.lean).
  GIVEN WITH THE SEED: the statements are not yours to turn. If you find one false, say at which input.
  Laid BY PROGRAM, IN A SANDBOX (cutbox-rows.mjs): the forced cells as the released guide's own fill.sh prints them over the translation 2c7f5ff7853da3f6… (all of the seat's roots in one cut). By AI agents, Wed Nov 11 2026. No macro, syntax, notation, axiom, sorry.
-/
import Derived.Test.Qxb6601968aChecked
import GoSem.Claim
import GoSem.ClaimJoined
import GoSem.ClaimMapViews
import Derived.JoinedTies
import Derived.KernelRfl
namespace Go.Proofs.Qxb6601968a
/- THE CELL 'sum', in the pinned program and in every row, IS THE sha256 OF THE DUMP (.gsa) THAT Qxb6601968aProg.lean LOADS. Nothing in Lean hashes anything: it is a label: what it is worth is what the hold of that sum in a sandbox is worth. -/
noncomputable def Try.pinned : Pinned := { name := "qxb6601968a", sum := "2c7f5ff7853da3f6e57440e35711d17ddbd0c34f7b1cb6a00cd16e7c203941ba", checked := Try.checked }
namespace Rows
def none {H : Type} : Left H := { results := [], args := [] }

/-- 'zzlaws_root_b1.FnNamesDNSMatchesItemModel': WHATEVER THE INPUT: true; the input reads as it did. -/
def fnNamesDNSMatchesItemModelSpec : ChangeSpec := { name := "fnNamesDNSMatchesItemModel", fn := fun _ => fun
  | [d] => { results := [.lit (.bool true)], args := [d] }
  | _ => none }
def fnNamesDNSMatchesItemModelRow : OpenClaim := { program := "qxb6601968a", sum := "2c7f5ff7853da3f6e57440e35711d17ddbd0c34f7b1cb6a00cd16e7c203941ba", func := "example.com/quietbeacon/quietbeacon/zzlaws_root_b1.FnNamesDNSMatchesItemModel", spec := "fnNamesDNSMatchesItemModel", inPlace := ["internal/bytealg.IndexByteString"], apart := false }
def FnNamesDNSMatchesItemModelSaid : Prop := fnNamesDNSMatchesItemModelRow.holds Try.pinned (OpenSpec.ofChange fnNamesDNSMatchesItemModelSpec)

/-- ITS FALSE NEIGHBOUR: 'it returns false'. Refute it at one input. -/
def fnNamesDNSMatchesItemModelWrong : ChangeSpec := { name := "fnNamesDNSMatchesItemModel", fn := fun _ => fun
  | [d] => { results := [.lit (.bool false)], args := [d] }
  | _ => none }
def FnNamesDNSMatchesItemModelWrongFalsely : Prop := fnNamesDNSMatchesItemModelRow.holds Try.pinned (OpenSpec.ofChange fnNamesDNSMatchesItemModelWrong)

/-- 'zzlaws_root_b1.FnNamesDNSCommaIsUnion': WHATEVER THE INPUT: true; the input reads as it did. -/
def fnNamesDNSCommaIsUnionSpec : ChangeSpec := { name := "fnNamesDNSCommaIsUnion", fn := fun _ => fun
  | [d1, d2] => { results := [.lit (.bool true)], args := [d1, d2] }
  | _ => none }
def fnNamesDNSCommaIsUnionRow : OpenClaim := { program := "qxb6601968a", sum := "2c7f5ff7853da3f6e57440e35711d17ddbd0c34f7b1cb6a00cd16e7c203941ba", func := "example.com/quietbeacon/quietbeacon/zzlaws_root_b1.FnNamesDNSCommaIsUnion", spec := "fnNamesDNSCommaIsUnion", inPlace := ["internal/bytealg.IndexByteString"], apart := false }
def FnNamesDNSCommaIsUnionSaid : Prop := fnNamesDNSCommaIsUnionRow.holds Try.pinned (OpenSpec.ofChange fnNamesDNSCommaIsUnionSpec)

/-- ITS FALSE NEIGHBOUR: 'it returns false'. Refute it at one input. -/
def fnNamesDNSCommaIsUnionWrong : ChangeSpec := { name := "fnNamesDNSCommaIsUnion", fn := fun _ => fun
  | [d1, d2] => { results := [.lit (.bool false)], args := [d1, d2] }
  | _ => none }
def FnNamesDNSCommaIsUnionWrongFalsely : Prop := fnNamesDNSCommaIsUnionRow.holds Try.pinned (OpenSpec.ofChange fnNamesDNSCommaIsUnionWrong)

/-- 'zzlaws_root_b1.FnSameADNIsEquivalence': WHATEVER THE INPUT: true; the input reads as it did. -/
def fnSameADNIsEquivalenceSpec : ChangeSpec := { name := "fnSameADNIsEquivalence", fn := fun _ => fun
  | [d1, d2, d3] => { results := [.lit (.bool true)], args := [d1, d2, d3] }
  | _ => none }
def fnSameADNIsEquivalenceRow : OpenClaim := { program := "qxb6601968a", sum := "2c7f5ff7853da3f6e57440e35711d17ddbd0c34f7b1cb6a00cd16e7c203941ba", func := "example.com/quietbeacon/quietbeacon/zzlaws_root_b1.FnSameADNIsEquivalence", spec := "fnSameADNIsEquivalence", unfollowed := true, recurses := true, apart := false }
def FnSameADNIsEquivalenceSaid : Prop := fnSameADNIsEquivalenceRow.holds Try.pinned (OpenSpec.ofChange fnSameADNIsEquivalenceSpec)

/-- ITS FALSE NEIGHBOUR: 'it returns false'. Refute it at one input. -/
def fnSameADNIsEquivalenceWrong : ChangeSpec := { name := "fnSameADNIsEquivalence", fn := fun _ => fun
  | [d1, d2, d3] => { results := [.lit (.bool false)], args := [d1, d2, d3] }
  | _ => none }
def FnSameADNIsEquivalenceWrongFalsely : Prop := fnSameADNIsEquivalenceRow.holds Try.pinned (OpenSpec.ofChange fnSameADNIsEquivalenceWrong)

/-- 'zzlaws_root_b1.FnSameADNIgnoresCaseAndOneDot': WHATEVER THE INPUT: true; the input reads as it did. -/
def fnSameADNIgnoresCaseAndOneDotSpec : ChangeSpec := { name := "fnSameADNIgnoresCaseAndOneDot", fn := fun _ => fun
  | [d] => { results := [.lit (.bool true)], args := [d] }
  | _ => none }
def fnSameADNIgnoresCaseAndOneDotRow : OpenClaim := { program := "qxb6601968a", sum := "2c7f5ff7853da3f6e57440e35711d17ddbd0c34f7b1cb6a00cd16e7c203941ba", func := "example.com/quietbeacon/quietbeacon/zzlaws_root_b1.FnSameADNIgnoresCaseAndOneDot", spec := "fnSameADNIgnoresCaseAndOneDot", unfollowed := true, recurses := true, apart := false }
def FnSameADNIgnoresCaseAndOneDotSaid : Prop := fnSameADNIgnoresCaseAndOneDotRow.holds Try.pinned (OpenSpec.ofChange fnSameADNIgnoresCaseAndOneDotSpec)

/-- ITS FALSE NEIGHBOUR: 'it returns false'. Refute it at one input. -/
def fnSameADNIgnoresCaseAndOneDotWrong : ChangeSpec := { name := "fnSameADNIgnoresCaseAndOneDot", fn := fun _ => fun
  | [d] => { results := [.lit (.bool false)], args := [d] }
  | _ => none }
def FnSameADNIgnoresCaseAndOneDotWrongFalsely : Prop := fnSameADNIgnoresCaseAndOneDotRow.holds Try.pinned (OpenSpec.ofChange fnSameADNIgnoresCaseAndOneDotWrong)

/-- 'zzlaws_root_b1.FnHasMatchesLinearModel': WHATEVER THE INPUT: true; the input reads as it did. -/
def fnHasMatchesLinearModelSpec : ChangeSpec := { name := "fnHasMatchesLinearModel", fn := fun _ => fun
  | [d1, d2, d3, d4, d5, d6, d7, d8] => { results := [.lit (.bool true)], args := [d1, d2, d3, d4, d5, d6, d7, d8] }
  | _ => none }
def fnHasMatchesLinearModelRow : OpenClaim := { program := "qxb6601968a", sum := "2c7f5ff7853da3f6e57440e35711d17ddbd0c34f7b1cb6a00cd16e7c203941ba", func := "example.com/quietbeacon/quietbeacon/zzlaws_root_b1.FnHasMatchesLinearModel", spec := "fnHasMatchesLinearModel", unfollowed := true, recurses := true, apart := false }
def FnHasMatchesLinearModelSaid : Prop := fnHasMatchesLinearModelRow.holds Try.pinned (OpenSpec.ofChange fnHasMatchesLinearModelSpec)

/-- ITS FALSE NEIGHBOUR: 'it returns false'. Refute it at one input. -/
def fnHasMatchesLinearModelWrong : ChangeSpec := { name := "fnHasMatchesLinearModel", fn := fun _ => fun
  | [d1, d2, d3, d4, d5, d6, d7, d8] => { results := [.lit (.bool false)], args := [d1, d2, d3, d4, d5, d6, d7, d8] }
  | _ => none }
def FnHasMatchesLinearModelWrongFalsely : Prop := fnHasMatchesLinearModelRow.holds Try.pinned (OpenSpec.ofChange fnHasMatchesLinearModelWrong)

end Rows
end Go.Proofs.Qxb6601968a
