/-
  No cell of these rows narrows 'for every input' (looked for: loops, veiled, ifaces, maps, wideKeys, modest, calm, conditions, laid).
  DERIVED. THE GIVEN ROWS OF THIS SEAT. 8 by the template 'for every input the law returns true; each argument reads behind the call as it read before'; 0 by the template 'total and deterministic' (their statements: Qxb6602953aTotals.lean).
  GIVEN WITH THE SEED: the statements are not yours to turn. If you find one false, say at which input.
  Laid BY PROGRAM, IN A SANDBOX (cutbox-rows.mjs): the forced cells as the released guide's own fill.sh prints them over the translation 13e7de7cf696e12c… (all of the seat's roots in one cut). By AI agents, Wed Nov 11 2026. No macro, syntax, notation, axiom, sorry.
-/
import Derived.Test.Qxb6602953aChecked
import GoSem.Claim
import GoSem.ClaimJoined
import GoSem.ClaimMapViews
import Derived.JoinedTies
import Derived.KernelRfl
namespace Go.Proofs.Qxb6602953a
/- THE CELL 'sum', in the pinned program and in every row, IS THE sha256 OF THE DUMP (.gsa) THAT Qxb6602953aProg.lean LOADS. Nothing in Lean hashes anything: it is a label: what it is worth is what the hold of that sum in a sandbox is worth. -/
noncomputable def Try.pinned : Pinned := { name := "qxb6602953a", sum := "13e7de7cf696e12cf9ffda977d51a769cf1c30942a8d3e142954cc5949abbab9", checked := Try.checked }
namespace Rows
def none {H : Type} : Left H := { results := [], args := [] }

/-- 'zzlaws_root_b1.FnMatchTLSAgreesWithPattern': WHATEVER THE INPUT: true; the input reads as it did. -/
def fnMatchTLSAgreesWithPatternSpec : ChangeSpec := { name := "fnMatchTLSAgreesWithPattern", fn := fun _ => fun
  | [d] => { results := [.lit (.bool true)], args := [d] }
  | _ => none }
def fnMatchTLSAgreesWithPatternRow : OpenClaim := { program := "qxb6602953a", sum := "13e7de7cf696e12cf9ffda977d51a769cf1c30942a8d3e142954cc5949abbab9", func := "example.com/ferrule/ferrule/zzlaws_root_b1.FnMatchTLSAgreesWithPattern", spec := "fnMatchTLSAgreesWithPattern", apart := false }
def FnMatchTLSAgreesWithPatternSaid : Prop := fnMatchTLSAgreesWithPatternRow.holds Try.pinned (OpenSpec.ofChange fnMatchTLSAgreesWithPatternSpec)

/-- ITS FALSE NEIGHBOUR: 'it returns false'. Refute it at one input. -/
def fnMatchTLSAgreesWithPatternWrong : ChangeSpec := { name := "fnMatchTLSAgreesWithPattern", fn := fun _ => fun
  | [d] => { results := [.lit (.bool false)], args := [d] }
  | _ => none }
def FnMatchTLSAgreesWithPatternWrongFalsely : Prop := fnMatchTLSAgreesWithPatternRow.holds Try.pinned (OpenSpec.ofChange fnMatchTLSAgreesWithPatternWrong)

/-- 'zzlaws_root_b1.FnMatchTLSSettledVerdictStays': WHATEVER THE INPUT: true; the input reads as it did. -/
def fnMatchTLSSettledVerdictStaysSpec : ChangeSpec := { name := "fnMatchTLSSettledVerdictStays", fn := fun _ => fun
  | [d1, d2] => { results := [.lit (.bool true)], args := [d1, d2] }
  | _ => none }
def fnMatchTLSSettledVerdictStaysRow : OpenClaim := { program := "qxb6602953a", sum := "13e7de7cf696e12cf9ffda977d51a769cf1c30942a8d3e142954cc5949abbab9", func := "example.com/ferrule/ferrule/zzlaws_root_b1.FnMatchTLSSettledVerdictStays", spec := "fnMatchTLSSettledVerdictStays", apart := false }
def FnMatchTLSSettledVerdictStaysSaid : Prop := fnMatchTLSSettledVerdictStaysRow.holds Try.pinned (OpenSpec.ofChange fnMatchTLSSettledVerdictStaysSpec)

/-- ITS FALSE NEIGHBOUR: 'it returns false'. Refute it at one input. -/
def fnMatchTLSSettledVerdictStaysWrong : ChangeSpec := { name := "fnMatchTLSSettledVerdictStays", fn := fun _ => fun
  | [d1, d2] => { results := [.lit (.bool false)], args := [d1, d2] }
  | _ => none }
def FnMatchTLSSettledVerdictStaysWrongFalsely : Prop := fnMatchTLSSettledVerdictStaysRow.holds Try.pinned (OpenSpec.ofChange fnMatchTLSSettledVerdictStaysWrong)

/-- 'zzlaws_root_b1.FnMatchTLSSixBytesDecide': WHATEVER THE INPUT: true; the input reads as it did. -/
def fnMatchTLSSixBytesDecideSpec : ChangeSpec := { name := "fnMatchTLSSixBytesDecide", fn := fun _ => fun
  | [d] => { results := [.lit (.bool true)], args := [d] }
  | _ => none }
def fnMatchTLSSixBytesDecideRow : OpenClaim := { program := "qxb6602953a", sum := "13e7de7cf696e12cf9ffda977d51a769cf1c30942a8d3e142954cc5949abbab9", func := "example.com/ferrule/ferrule/zzlaws_root_b1.FnMatchTLSSixBytesDecide", spec := "fnMatchTLSSixBytesDecide", apart := false }
def FnMatchTLSSixBytesDecideSaid : Prop := fnMatchTLSSixBytesDecideRow.holds Try.pinned (OpenSpec.ofChange fnMatchTLSSixBytesDecideSpec)

/-- ITS FALSE NEIGHBOUR: 'it returns false'. Refute it at one input. -/
def fnMatchTLSSixBytesDecideWrong : ChangeSpec := { name := "fnMatchTLSSixBytesDecide", fn := fun _ => fun
  | [d] => { results := [.lit (.bool false)], args := [d] }
  | _ => none }
def FnMatchTLSSixBytesDecideWrongFalsely : Prop := fnMatchTLSSixBytesDecideRow.holds Try.pinned (OpenSpec.ofChange fnMatchTLSSixBytesDecideWrong)

/-- 'zzlaws_root_b1.FnEqualLowerASCIIAgreesWithFold': WHATEVER THE INPUT: true; the input reads as it did. -/
def fnEqualLowerASCIIAgreesWithFoldSpec : ChangeSpec := { name := "fnEqualLowerASCIIAgreesWithFold", fn := fun _ => fun
  | [d1, d2] => { results := [.lit (.bool true)], args := [d1, d2] }
  | _ => none }
def fnEqualLowerASCIIAgreesWithFoldRow : OpenClaim := { program := "qxb6602953a", sum := "13e7de7cf696e12cf9ffda977d51a769cf1c30942a8d3e142954cc5949abbab9", func := "example.com/ferrule/ferrule/zzlaws_root_b1.FnEqualLowerASCIIAgreesWithFold", spec := "fnEqualLowerASCIIAgreesWithFold", apart := false }
def FnEqualLowerASCIIAgreesWithFoldSaid : Prop := fnEqualLowerASCIIAgreesWithFoldRow.holds Try.pinned (OpenSpec.ofChange fnEqualLowerASCIIAgreesWithFoldSpec)

/-- ITS FALSE NEIGHBOUR: 'it returns false'. Refute it at one input. -/
def fnEqualLowerASCIIAgreesWithFoldWrong : ChangeSpec := { name := "fnEqualLowerASCIIAgreesWithFold", fn := fun _ => fun
  | [d1, d2] => { results := [.lit (.bool false)], args := [d1, d2] }
  | _ => none }
def FnEqualLowerASCIIAgreesWithFoldWrongFalsely : Prop := fnEqualLowerASCIIAgreesWithFoldRow.holds Try.pinned (OpenSpec.ofChange fnEqualLowerASCIIAgreesWithFoldWrong)

/-- 'zzlaws_root_b1.FnEqualLowerASCIIIgnoresNameCase': WHATEVER THE INPUT: true; the input reads as it did. -/
def fnEqualLowerASCIIIgnoresNameCaseSpec : ChangeSpec := { name := "fnEqualLowerASCIIIgnoresNameCase", fn := fun _ => fun
  | [d1, d2] => { results := [.lit (.bool true)], args := [d1, d2] }
  | _ => none }
def fnEqualLowerASCIIIgnoresNameCaseRow : OpenClaim := { program := "qxb6602953a", sum := "13e7de7cf696e12cf9ffda977d51a769cf1c30942a8d3e142954cc5949abbab9", func := "example.com/ferrule/ferrule/zzlaws_root_b1.FnEqualLowerASCIIIgnoresNameCase", spec := "fnEqualLowerASCIIIgnoresNameCase", apart := false }
def FnEqualLowerASCIIIgnoresNameCaseSaid : Prop := fnEqualLowerASCIIIgnoresNameCaseRow.holds Try.pinned (OpenSpec.ofChange fnEqualLowerASCIIIgnoresNameCaseSpec)

/-- ITS FALSE NEIGHBOUR: 'it returns false'. Refute it at one input. -/
def fnEqualLowerASCIIIgnoresNameCaseWrong : ChangeSpec := { name := "fnEqualLowerASCIIIgnoresNameCase", fn := fun _ => fun
  | [d1, d2] => { results := [.lit (.bool false)], args := [d1, d2] }
  | _ => none }
def FnEqualLowerASCIIIgnoresNameCaseWrongFalsely : Prop := fnEqualLowerASCIIIgnoresNameCaseRow.holds Try.pinned (OpenSpec.ofChange fnEqualLowerASCIIIgnoresNameCaseWrong)

/-- 'zzlaws_root_b1.FnEqualLowerASCIIRefusesUpperWant': WHATEVER THE INPUT: true; the input reads as it did. -/
def fnEqualLowerASCIIRefusesUpperWantSpec : ChangeSpec := { name := "fnEqualLowerASCIIRefusesUpperWant", fn := fun _ => fun
  | [d1, d2] => { results := [.lit (.bool true)], args := [d1, d2] }
  | _ => none }
def fnEqualLowerASCIIRefusesUpperWantRow : OpenClaim := { program := "qxb6602953a", sum := "13e7de7cf696e12cf9ffda977d51a769cf1c30942a8d3e142954cc5949abbab9", func := "example.com/ferrule/ferrule/zzlaws_root_b1.FnEqualLowerASCIIRefusesUpperWant", spec := "fnEqualLowerASCIIRefusesUpperWant", apart := false }
def FnEqualLowerASCIIRefusesUpperWantSaid : Prop := fnEqualLowerASCIIRefusesUpperWantRow.holds Try.pinned (OpenSpec.ofChange fnEqualLowerASCIIRefusesUpperWantSpec)

/-- ITS FALSE NEIGHBOUR: 'it returns false'. Refute it at one input. -/
def fnEqualLowerASCIIRefusesUpperWantWrong : ChangeSpec := { name := "fnEqualLowerASCIIRefusesUpperWant", fn := fun _ => fun
  | [d1, d2] => { results := [.lit (.bool false)], args := [d1, d2] }
  | _ => none }
def FnEqualLowerASCIIRefusesUpperWantWrongFalsely : Prop := fnEqualLowerASCIIRefusesUpperWantRow.holds Try.pinned (OpenSpec.ofChange fnEqualLowerASCIIRefusesUpperWantWrong)

/-- 'zzlaws_root_b1.FnTakeAgreesWithModel': WHATEVER THE INPUT: true; the input reads as it did. -/
def fnTakeAgreesWithModelSpec : ChangeSpec := { name := "fnTakeAgreesWithModel", fn := fun _ => fun
  | [d1, d2] => { results := [.lit (.bool true)], args := [d1, d2] }
  | _ => none }
def fnTakeAgreesWithModelRow : OpenClaim := { program := "qxb6602953a", sum := "13e7de7cf696e12cf9ffda977d51a769cf1c30942a8d3e142954cc5949abbab9", func := "example.com/ferrule/ferrule/zzlaws_root_b1.FnTakeAgreesWithModel", spec := "fnTakeAgreesWithModel", apart := false }
def FnTakeAgreesWithModelSaid : Prop := fnTakeAgreesWithModelRow.holds Try.pinned (OpenSpec.ofChange fnTakeAgreesWithModelSpec)

/-- ITS FALSE NEIGHBOUR: 'it returns false'. Refute it at one input. -/
def fnTakeAgreesWithModelWrong : ChangeSpec := { name := "fnTakeAgreesWithModel", fn := fun _ => fun
  | [d1, d2] => { results := [.lit (.bool false)], args := [d1, d2] }
  | _ => none }
def FnTakeAgreesWithModelWrongFalsely : Prop := fnTakeAgreesWithModelRow.holds Try.pinned (OpenSpec.ofChange fnTakeAgreesWithModelWrong)

/-- 'zzlaws_root_b1.FnTakeSplitsFreely': WHATEVER THE INPUT: true; the input reads as it did. -/
def fnTakeSplitsFreelySpec : ChangeSpec := { name := "fnTakeSplitsFreely", fn := fun _ => fun
  | [d1, d2, d3] => { results := [.lit (.bool true)], args := [d1, d2, d3] }
  | _ => none }
def fnTakeSplitsFreelyRow : OpenClaim := { program := "qxb6602953a", sum := "13e7de7cf696e12cf9ffda977d51a769cf1c30942a8d3e142954cc5949abbab9", func := "example.com/ferrule/ferrule/zzlaws_root_b1.FnTakeSplitsFreely", spec := "fnTakeSplitsFreely", apart := false }
def FnTakeSplitsFreelySaid : Prop := fnTakeSplitsFreelyRow.holds Try.pinned (OpenSpec.ofChange fnTakeSplitsFreelySpec)

/-- ITS FALSE NEIGHBOUR: 'it returns false'. Refute it at one input. -/
def fnTakeSplitsFreelyWrong : ChangeSpec := { name := "fnTakeSplitsFreely", fn := fun _ => fun
  | [d1, d2, d3] => { results := [.lit (.bool false)], args := [d1, d2, d3] }
  | _ => none }
def FnTakeSplitsFreelyWrongFalsely : Prop := fnTakeSplitsFreelyRow.holds Try.pinned (OpenSpec.ofChange fnTakeSplitsFreelyWrong)

end Rows
end Go.Proofs.Qxb6602953a
