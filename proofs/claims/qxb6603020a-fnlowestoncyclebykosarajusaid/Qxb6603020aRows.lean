/-
  No cell of these rows narrows 'for every input' (looked for: loops, veiled, ifaces, maps, wideKeys, modest, calm, conditions, laid).
  DERIVED. THE GIVEN ROWS OF THIS SEAT. 5 by the template 'for every input the law returns true; each argument reads behind the call as it read before'; 0 by the template 'total and deterministic' (their statements: Qxb6603020aTotals.lean).
  GIVEN WITH THE SEED: the statements are not yours to turn. If you find one false, say at which input.
  Laid BY PROGRAM, IN A SANDBOX (cutbox-rows.mjs): the forced cells as the released guide's own fill.sh prints them over the translation 874149690f12f995… (all of the seat's roots in one cut). By AI agents, Wed Nov 11 2026. No macro, syntax, notation, axiom, sorry.
-/
import Derived.Test.Qxb6603020aChecked
import GoSem.Claim
import GoSem.ClaimJoined
import GoSem.ClaimMapViews
import Derived.JoinedTies
import Derived.KernelRfl
namespace Go.Proofs.Qxb6603020a
/- THE CELL 'sum', in the pinned program and in every row, IS THE sha256 OF THE DUMP (.gsa) THAT Qxb6603020aProg.lean LOADS. Nothing in Lean hashes anything: it is a label: what it is worth is what the hold of that sum in a sandbox is worth. -/
noncomputable def Try.pinned : Pinned := { name := "qxb6603020a", sum := "874149690f12f995af2761b983a55b1b476f4f518397ce6bccb7140b25ee7a76", checked := Try.checked }
namespace Rows
def none {H : Type} : Left H := { results := [], args := [] }

/-- 'zzlaws_internal_schedule_b1.FnClassifyMeetsItsDefinitions': WHATEVER THE INPUT: true; the input reads as it did. -/
def fnClassifyMeetsItsDefinitionsSpec : ChangeSpec := { name := "fnClassifyMeetsItsDefinitions", fn := fun _ => fun
  | [d1, d2, d3, d4, d5, d6, d7, d8] => { results := [.lit (.bool true)], args := [d1, d2, d3, d4, d5, d6, d7, d8] }
  | _ => none }
def fnClassifyMeetsItsDefinitionsRow : OpenClaim := { program := "qxb6603020a", sum := "874149690f12f995af2761b983a55b1b476f4f518397ce6bccb7140b25ee7a76", func := "example.com/ordo/ordo/zzlaws_internal_schedule_b1.FnClassifyMeetsItsDefinitions", spec := "fnClassifyMeetsItsDefinitions", plainKeys := false, apart := false }
def FnClassifyMeetsItsDefinitionsSaid : Prop := fnClassifyMeetsItsDefinitionsRow.holds Try.pinned (OpenSpec.ofChange fnClassifyMeetsItsDefinitionsSpec)

/-- ITS FALSE NEIGHBOUR: 'it returns false'. Refute it at one input. -/
def fnClassifyMeetsItsDefinitionsWrong : ChangeSpec := { name := "fnClassifyMeetsItsDefinitions", fn := fun _ => fun
  | [d1, d2, d3, d4, d5, d6, d7, d8] => { results := [.lit (.bool false)], args := [d1, d2, d3, d4, d5, d6, d7, d8] }
  | _ => none }
def FnClassifyMeetsItsDefinitionsWrongFalsely : Prop := fnClassifyMeetsItsDefinitionsRow.holds Try.pinned (OpenSpec.ofChange fnClassifyMeetsItsDefinitionsWrong)

/-- 'zzlaws_internal_schedule_b1.FnClassifyClassesNest': WHATEVER THE INPUT: true; the input reads as it did. -/
def fnClassifyClassesNestSpec : ChangeSpec := { name := "fnClassifyClassesNest", fn := fun _ => fun
  | [d1, d2, d3, d4, d5, d6, d7, d8] => { results := [.lit (.bool true)], args := [d1, d2, d3, d4, d5, d6, d7, d8] }
  | _ => none }
def fnClassifyClassesNestRow : OpenClaim := { program := "qxb6603020a", sum := "874149690f12f995af2761b983a55b1b476f4f518397ce6bccb7140b25ee7a76", func := "example.com/ordo/ordo/zzlaws_internal_schedule_b1.FnClassifyClassesNest", spec := "fnClassifyClassesNest", plainKeys := false, apart := false }
def FnClassifyClassesNestSaid : Prop := fnClassifyClassesNestRow.holds Try.pinned (OpenSpec.ofChange fnClassifyClassesNestSpec)

/-- ITS FALSE NEIGHBOUR: 'it returns false'. Refute it at one input. -/
def fnClassifyClassesNestWrong : ChangeSpec := { name := "fnClassifyClassesNest", fn := fun _ => fun
  | [d1, d2, d3, d4, d5, d6, d7, d8] => { results := [.lit (.bool false)], args := [d1, d2, d3, d4, d5, d6, d7, d8] }
  | _ => none }
def FnClassifyClassesNestWrongFalsely : Prop := fnClassifyClassesNestRow.holds Try.pinned (OpenSpec.ofChange fnClassifyClassesNestWrong)

/-- 'zzlaws_internal_schedule_b1.FnPrecedenceIsTheConflictGraph': WHATEVER THE INPUT: true; the input reads as it did. -/
def fnPrecedenceIsTheConflictGraphSpec : ChangeSpec := { name := "fnPrecedenceIsTheConflictGraph", fn := fun _ => fun
  | [d1, d2, d3, d4, d5, d6, d7, d8] => { results := [.lit (.bool true)], args := [d1, d2, d3, d4, d5, d6, d7, d8] }
  | _ => none }
def fnPrecedenceIsTheConflictGraphRow : OpenClaim := { program := "qxb6603020a", sum := "874149690f12f995af2761b983a55b1b476f4f518397ce6bccb7140b25ee7a76", func := "example.com/ordo/ordo/zzlaws_internal_schedule_b1.FnPrecedenceIsTheConflictGraph", spec := "fnPrecedenceIsTheConflictGraph", unfollowed := true, recurses := true, plainKeys := false, apart := false }
def FnPrecedenceIsTheConflictGraphSaid : Prop := fnPrecedenceIsTheConflictGraphRow.holds Try.pinned (OpenSpec.ofChange fnPrecedenceIsTheConflictGraphSpec)

/-- ITS FALSE NEIGHBOUR: 'it returns false'. Refute it at one input. -/
def fnPrecedenceIsTheConflictGraphWrong : ChangeSpec := { name := "fnPrecedenceIsTheConflictGraph", fn := fun _ => fun
  | [d1, d2, d3, d4, d5, d6, d7, d8] => { results := [.lit (.bool false)], args := [d1, d2, d3, d4, d5, d6, d7, d8] }
  | _ => none }
def FnPrecedenceIsTheConflictGraphWrongFalsely : Prop := fnPrecedenceIsTheConflictGraphRow.holds Try.pinned (OpenSpec.ofChange fnPrecedenceIsTheConflictGraphWrong)

/-- 'zzlaws_internal_schedule_b1.FnSerialScheduleIsAcyclic': WHATEVER THE INPUT: true; the input reads as it did. -/
def fnSerialScheduleIsAcyclicSpec : ChangeSpec := { name := "fnSerialScheduleIsAcyclic", fn := fun _ => fun
  | [d1, d2, d3, d4, d5, d6, d7, d8] => { results := [.lit (.bool true)], args := [d1, d2, d3, d4, d5, d6, d7, d8] }
  | _ => none }
def fnSerialScheduleIsAcyclicRow : OpenClaim := { program := "qxb6603020a", sum := "874149690f12f995af2761b983a55b1b476f4f518397ce6bccb7140b25ee7a76", func := "example.com/ordo/ordo/zzlaws_internal_schedule_b1.FnSerialScheduleIsAcyclic", spec := "fnSerialScheduleIsAcyclic", unfollowed := true, recurses := true, plainKeys := false, apart := false }
def FnSerialScheduleIsAcyclicSaid : Prop := fnSerialScheduleIsAcyclicRow.holds Try.pinned (OpenSpec.ofChange fnSerialScheduleIsAcyclicSpec)

/-- ITS FALSE NEIGHBOUR: 'it returns false'. Refute it at one input. -/
def fnSerialScheduleIsAcyclicWrong : ChangeSpec := { name := "fnSerialScheduleIsAcyclic", fn := fun _ => fun
  | [d1, d2, d3, d4, d5, d6, d7, d8] => { results := [.lit (.bool false)], args := [d1, d2, d3, d4, d5, d6, d7, d8] }
  | _ => none }
def FnSerialScheduleIsAcyclicWrongFalsely : Prop := fnSerialScheduleIsAcyclicRow.holds Try.pinned (OpenSpec.ofChange fnSerialScheduleIsAcyclicWrong)

/-- 'zzlaws_internal_schedule_b1.FnLowestOnCycleByKosaraju': WHATEVER THE INPUT: true; the input reads as it did. -/
def fnLowestOnCycleByKosarajuSpec : ChangeSpec := { name := "fnLowestOnCycleByKosaraju", fn := fun _ => fun
  | [d1, d2, d3, d4, d5] => { results := [.lit (.bool true)], args := [d1, d2, d3, d4, d5] }
  | _ => none }
def fnLowestOnCycleByKosarajuRow : OpenClaim := { program := "qxb6603020a", sum := "874149690f12f995af2761b983a55b1b476f4f518397ce6bccb7140b25ee7a76", func := "example.com/ordo/ordo/zzlaws_internal_schedule_b1.FnLowestOnCycleByKosaraju", spec := "fnLowestOnCycleByKosaraju", unfollowed := true, recurses := true, plainKeys := false, apart := false }
def FnLowestOnCycleByKosarajuSaid : Prop := fnLowestOnCycleByKosarajuRow.holds Try.pinned (OpenSpec.ofChange fnLowestOnCycleByKosarajuSpec)

/-- ITS FALSE NEIGHBOUR: 'it returns false'. Refute it at one input. -/
def fnLowestOnCycleByKosarajuWrong : ChangeSpec := { name := "fnLowestOnCycleByKosaraju", fn := fun _ => fun
  | [d1, d2, d3, d4, d5] => { results := [.lit (.bool false)], args := [d1, d2, d3, d4, d5] }
  | _ => none }
def FnLowestOnCycleByKosarajuWrongFalsely : Prop := fnLowestOnCycleByKosarajuRow.holds Try.pinned (OpenSpec.ofChange fnLowestOnCycleByKosarajuWrong)

end Rows
end Go.Proofs.Qxb6603020a
