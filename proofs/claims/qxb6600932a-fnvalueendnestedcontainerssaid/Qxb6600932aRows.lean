/-
  No cell of these rows narrows 'for every input' (looked for: loops, veiled, ifaces, maps, wideKeys, modest, calm, conditions, laid).
  DERIVED. THE GIVEN ROWS OF THIS SEAT. 8 by the template 'for every input the law returns true; each argument reads behind the call as it read before'; 0 by the template 'total and deterministic' (their statements: Qxb6600932aTotals.lean).
  GIVEN WITH THE SEED: the statements are not yours to turn. If you find one false, say at which input.
  Laid BY PROGRAM, IN A SANDBOX (cutbox-rows.mjs): the forced cells as the released guide's own fill.sh prints them over the translation b6d54df8a1222c8f… (all of the seat's roots in one cut). By AI agents, Wed Nov 11 2026. No macro, syntax, notation, axiom, sorry.
-/
import Derived.Test.Qxb6600932aChecked
import GoSem.Claim
import GoSem.ClaimJoined
import GoSem.ClaimMapViews
import Derived.JoinedTies
import Derived.KernelRfl
namespace Go.Proofs.Qxb6600932a
/- THE CELL 'sum', in the pinned program and in every row, IS THE sha256 OF THE DUMP (.gsa) THAT Qxb6600932aProg.lean LOADS. Nothing in Lean hashes anything: it is a label: what it is worth is what the hold of that sum in a sandbox is worth. -/
noncomputable def Try.pinned : Pinned := { name := "qxb6600932a", sum := "b6d54df8a1222c8fb2042d00bd27d905688a24270894e70e795ee77e06c6b40e", checked := Try.checked }
namespace Rows
def none {H : Type} : Left H := { results := [], args := [] }

/-- 'zzlaws_internal_jsonobject_b1.FnIsIntegerMatchesAutomaton': WHATEVER THE INPUT: true; the input reads as it did. -/
def fnIsIntegerMatchesAutomatonSpec : ChangeSpec := { name := "fnIsIntegerMatchesAutomaton", fn := fun _ => fun
  | [d] => { results := [.lit (.bool true)], args := [d] }
  | _ => none }
def fnIsIntegerMatchesAutomatonRow : OpenClaim := { program := "qxb6600932a", sum := "b6d54df8a1222c8fb2042d00bd27d905688a24270894e70e795ee77e06c6b40e", func := "example.com/pass4/pass4/zzlaws_internal_jsonobject_b1.FnIsIntegerMatchesAutomaton", spec := "fnIsIntegerMatchesAutomaton", apart := false }
def FnIsIntegerMatchesAutomatonSaid : Prop := fnIsIntegerMatchesAutomatonRow.holds Try.pinned (OpenSpec.ofChange fnIsIntegerMatchesAutomatonSpec)

/-- ITS FALSE NEIGHBOUR: 'it returns false'. Refute it at one input. -/
def fnIsIntegerMatchesAutomatonWrong : ChangeSpec := { name := "fnIsIntegerMatchesAutomaton", fn := fun _ => fun
  | [d] => { results := [.lit (.bool false)], args := [d] }
  | _ => none }
def FnIsIntegerMatchesAutomatonWrongFalsely : Prop := fnIsIntegerMatchesAutomatonRow.holds Try.pinned (OpenSpec.ofChange fnIsIntegerMatchesAutomatonWrong)

/-- 'zzlaws_internal_jsonobject_b1.FnIsIntegerAcceptsFormattedRefusesDecorated': WHATEVER THE INPUT: true; the input reads as it did. -/
def fnIsIntegerAcceptsFormattedRefusesDecoratedSpec : ChangeSpec := { name := "fnIsIntegerAcceptsFormattedRefusesDecorated", fn := fun _ => fun
  | [d] => { results := [.lit (.bool true)], args := [d] }
  | _ => none }
def fnIsIntegerAcceptsFormattedRefusesDecoratedRow : OpenClaim := { program := "qxb6600932a", sum := "b6d54df8a1222c8fb2042d00bd27d905688a24270894e70e795ee77e06c6b40e", func := "example.com/pass4/pass4/zzlaws_internal_jsonobject_b1.FnIsIntegerAcceptsFormattedRefusesDecorated", spec := "fnIsIntegerAcceptsFormattedRefusesDecorated", apart := false }
def FnIsIntegerAcceptsFormattedRefusesDecoratedSaid : Prop := fnIsIntegerAcceptsFormattedRefusesDecoratedRow.holds Try.pinned (OpenSpec.ofChange fnIsIntegerAcceptsFormattedRefusesDecoratedSpec)

/-- ITS FALSE NEIGHBOUR: 'it returns false'. Refute it at one input. -/
def fnIsIntegerAcceptsFormattedRefusesDecoratedWrong : ChangeSpec := { name := "fnIsIntegerAcceptsFormattedRefusesDecorated", fn := fun _ => fun
  | [d] => { results := [.lit (.bool false)], args := [d] }
  | _ => none }
def FnIsIntegerAcceptsFormattedRefusesDecoratedWrongFalsely : Prop := fnIsIntegerAcceptsFormattedRefusesDecoratedRow.holds Try.pinned (OpenSpec.ofChange fnIsIntegerAcceptsFormattedRefusesDecoratedWrong)

/-- 'zzlaws_internal_jsonobject_b1.FnIsIntegerSignSymmetry': WHATEVER THE INPUT: true; the input reads as it did. -/
def fnIsIntegerSignSymmetrySpec : ChangeSpec := { name := "fnIsIntegerSignSymmetry", fn := fun _ => fun
  | [d] => { results := [.lit (.bool true)], args := [d] }
  | _ => none }
def fnIsIntegerSignSymmetryRow : OpenClaim := { program := "qxb6600932a", sum := "b6d54df8a1222c8fb2042d00bd27d905688a24270894e70e795ee77e06c6b40e", func := "example.com/pass4/pass4/zzlaws_internal_jsonobject_b1.FnIsIntegerSignSymmetry", spec := "fnIsIntegerSignSymmetry", apart := false }
def FnIsIntegerSignSymmetrySaid : Prop := fnIsIntegerSignSymmetryRow.holds Try.pinned (OpenSpec.ofChange fnIsIntegerSignSymmetrySpec)

/-- ITS FALSE NEIGHBOUR: 'it returns false'. Refute it at one input. -/
def fnIsIntegerSignSymmetryWrong : ChangeSpec := { name := "fnIsIntegerSignSymmetry", fn := fun _ => fun
  | [d] => { results := [.lit (.bool false)], args := [d] }
  | _ => none }
def FnIsIntegerSignSymmetryWrongFalsely : Prop := fnIsIntegerSignSymmetryRow.holds Try.pinned (OpenSpec.ofChange fnIsIntegerSignSymmetryWrong)

/-- 'zzlaws_internal_jsonobject_b1.FnPlainTextEndMatchesTwoPassModel': WHATEVER THE INPUT: true; the input reads as it did. -/
def fnPlainTextEndMatchesTwoPassModelSpec : ChangeSpec := { name := "fnPlainTextEndMatchesTwoPassModel", fn := fun _ => fun
  | [d1, d2] => { results := [.lit (.bool true)], args := [d1, d2] }
  | _ => none }
def fnPlainTextEndMatchesTwoPassModelRow : OpenClaim := { program := "qxb6600932a", sum := "b6d54df8a1222c8fb2042d00bd27d905688a24270894e70e795ee77e06c6b40e", func := "example.com/pass4/pass4/zzlaws_internal_jsonobject_b1.FnPlainTextEndMatchesTwoPassModel", spec := "fnPlainTextEndMatchesTwoPassModel", apart := false }
def FnPlainTextEndMatchesTwoPassModelSaid : Prop := fnPlainTextEndMatchesTwoPassModelRow.holds Try.pinned (OpenSpec.ofChange fnPlainTextEndMatchesTwoPassModelSpec)

/-- ITS FALSE NEIGHBOUR: 'it returns false'. Refute it at one input. -/
def fnPlainTextEndMatchesTwoPassModelWrong : ChangeSpec := { name := "fnPlainTextEndMatchesTwoPassModel", fn := fun _ => fun
  | [d1, d2] => { results := [.lit (.bool false)], args := [d1, d2] }
  | _ => none }
def FnPlainTextEndMatchesTwoPassModelWrongFalsely : Prop := fnPlainTextEndMatchesTwoPassModelRow.holds Try.pinned (OpenSpec.ofChange fnPlainTextEndMatchesTwoPassModelWrong)

/-- 'zzlaws_internal_jsonobject_b1.FnPlainTextEndFindsQuotedEnd': WHATEVER THE INPUT: true; the input reads as it did. -/
def fnPlainTextEndFindsQuotedEndSpec : ChangeSpec := { name := "fnPlainTextEndFindsQuotedEnd", fn := fun _ => fun
  | [d1, d2, d3] => { results := [.lit (.bool true)], args := [d1, d2, d3] }
  | _ => none }
def fnPlainTextEndFindsQuotedEndRow : OpenClaim := { program := "qxb6600932a", sum := "b6d54df8a1222c8fb2042d00bd27d905688a24270894e70e795ee77e06c6b40e", func := "example.com/pass4/pass4/zzlaws_internal_jsonobject_b1.FnPlainTextEndFindsQuotedEnd", spec := "fnPlainTextEndFindsQuotedEnd", apart := false }
def FnPlainTextEndFindsQuotedEndSaid : Prop := fnPlainTextEndFindsQuotedEndRow.holds Try.pinned (OpenSpec.ofChange fnPlainTextEndFindsQuotedEndSpec)

/-- ITS FALSE NEIGHBOUR: 'it returns false'. Refute it at one input. -/
def fnPlainTextEndFindsQuotedEndWrong : ChangeSpec := { name := "fnPlainTextEndFindsQuotedEnd", fn := fun _ => fun
  | [d1, d2, d3] => { results := [.lit (.bool false)], args := [d1, d2, d3] }
  | _ => none }
def FnPlainTextEndFindsQuotedEndWrongFalsely : Prop := fnPlainTextEndFindsQuotedEndRow.holds Try.pinned (OpenSpec.ofChange fnPlainTextEndFindsQuotedEndWrong)

/-- 'zzlaws_internal_jsonobject_b1.FnPlainTextEndRefusesBadByte': WHATEVER THE INPUT: true; the input reads as it did. -/
def fnPlainTextEndRefusesBadByteSpec : ChangeSpec := { name := "fnPlainTextEndRefusesBadByte", fn := fun _ => fun
  | [d1, d2, d3, d4] => { results := [.lit (.bool true)], args := [d1, d2, d3, d4] }
  | _ => none }
def fnPlainTextEndRefusesBadByteRow : OpenClaim := { program := "qxb6600932a", sum := "b6d54df8a1222c8fb2042d00bd27d905688a24270894e70e795ee77e06c6b40e", func := "example.com/pass4/pass4/zzlaws_internal_jsonobject_b1.FnPlainTextEndRefusesBadByte", spec := "fnPlainTextEndRefusesBadByte", apart := false }
def FnPlainTextEndRefusesBadByteSaid : Prop := fnPlainTextEndRefusesBadByteRow.holds Try.pinned (OpenSpec.ofChange fnPlainTextEndRefusesBadByteSpec)

/-- ITS FALSE NEIGHBOUR: 'it returns false'. Refute it at one input. -/
def fnPlainTextEndRefusesBadByteWrong : ChangeSpec := { name := "fnPlainTextEndRefusesBadByte", fn := fun _ => fun
  | [d1, d2, d3, d4] => { results := [.lit (.bool false)], args := [d1, d2, d3, d4] }
  | _ => none }
def FnPlainTextEndRefusesBadByteWrongFalsely : Prop := fnPlainTextEndRefusesBadByteRow.holds Try.pinned (OpenSpec.ofChange fnPlainTextEndRefusesBadByteWrong)

/-- 'zzlaws_internal_jsonobject_b1.FnValueEndFindsEndOfBuiltValues': WHATEVER THE INPUT: true; the input reads as it did. -/
def fnValueEndFindsEndOfBuiltValuesSpec : ChangeSpec := { name := "fnValueEndFindsEndOfBuiltValues", fn := fun _ => fun
  | [d1, d2] => { results := [.lit (.bool true)], args := [d1, d2] }
  | _ => none }
def fnValueEndFindsEndOfBuiltValuesRow : OpenClaim := { program := "qxb6600932a", sum := "b6d54df8a1222c8fb2042d00bd27d905688a24270894e70e795ee77e06c6b40e", func := "example.com/pass4/pass4/zzlaws_internal_jsonobject_b1.FnValueEndFindsEndOfBuiltValues", spec := "fnValueEndFindsEndOfBuiltValues", recurses := true, apart := false }
def FnValueEndFindsEndOfBuiltValuesSaid : Prop := fnValueEndFindsEndOfBuiltValuesRow.holds Try.pinned (OpenSpec.ofChange fnValueEndFindsEndOfBuiltValuesSpec)

/-- ITS FALSE NEIGHBOUR: 'it returns false'. Refute it at one input. -/
def fnValueEndFindsEndOfBuiltValuesWrong : ChangeSpec := { name := "fnValueEndFindsEndOfBuiltValues", fn := fun _ => fun
  | [d1, d2] => { results := [.lit (.bool false)], args := [d1, d2] }
  | _ => none }
def FnValueEndFindsEndOfBuiltValuesWrongFalsely : Prop := fnValueEndFindsEndOfBuiltValuesRow.holds Try.pinned (OpenSpec.ofChange fnValueEndFindsEndOfBuiltValuesWrong)

/-- 'zzlaws_internal_jsonobject_b1.FnValueEndNestedContainers': WHATEVER THE INPUT: true; the input reads as it did. -/
def fnValueEndNestedContainersSpec : ChangeSpec := { name := "fnValueEndNestedContainers", fn := fun _ => fun
  | [d1, d2] => { results := [.lit (.bool true)], args := [d1, d2] }
  | _ => none }
def fnValueEndNestedContainersRow : OpenClaim := { program := "qxb6600932a", sum := "b6d54df8a1222c8fb2042d00bd27d905688a24270894e70e795ee77e06c6b40e", func := "example.com/pass4/pass4/zzlaws_internal_jsonobject_b1.FnValueEndNestedContainers", spec := "fnValueEndNestedContainers", recurses := true, apart := false }
def FnValueEndNestedContainersSaid : Prop := fnValueEndNestedContainersRow.holds Try.pinned (OpenSpec.ofChange fnValueEndNestedContainersSpec)

/-- ITS FALSE NEIGHBOUR: 'it returns false'. Refute it at one input. -/
def fnValueEndNestedContainersWrong : ChangeSpec := { name := "fnValueEndNestedContainers", fn := fun _ => fun
  | [d1, d2] => { results := [.lit (.bool false)], args := [d1, d2] }
  | _ => none }
def FnValueEndNestedContainersWrongFalsely : Prop := fnValueEndNestedContainersRow.holds Try.pinned (OpenSpec.ofChange fnValueEndNestedContainersWrong)

end Rows
end Go.Proofs.Qxb6600932a
