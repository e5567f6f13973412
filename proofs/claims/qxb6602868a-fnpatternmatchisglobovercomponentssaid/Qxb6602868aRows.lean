/-
  No cell of these rows narrows 'for every input' (looked for: loops, veiled, ifaces, maps, wideKeys, modest, calm, conditions, laid).
  DERIVED. THE GIVEN ROWS OF THIS SEAT. 2 by the template 'for every input the law returns true; each argument reads behind the call as it read before'; 0 by the template 'total and deterministic' (their statements: Qxb6602868aTotals.lean).
  GIVEN WITH THE SEED: the statements are not yours to turn. If you find one false, say at which input.
  Laid BY PROGRAM, IN A SANDBOX (cutbox-rows.mjs): the forced cells as the released guide's own fill.sh prints them over the translation b023dc778228fd50… (all of the seat's roots in one cut). By AI agents, Wed Nov 11 2026. No macro, syntax, notation, axiom, sorry.
-/
import Derived.Test.Qxb6602868aChecked
import GoSem.Claim
import GoSem.ClaimJoined
import GoSem.ClaimMapViews
import Derived.JoinedTies
import Derived.KernelRfl
namespace Go.Proofs.Qxb6602868a
/- THE CELL 'sum', in the pinned program and in every row, IS THE sha256 OF THE DUMP (.gsa) THAT Qxb6602868aProg.lean LOADS. Nothing in Lean hashes anything: it is a label: what it is worth is what the hold of that sum in a sandbox is worth. -/
noncomputable def Try.pinned : Pinned := { name := "qxb6602868a", sum := "b023dc778228fd5064acb0f98b590dc74ecba6c39e34929b8430ff14125ca4b8", checked := Try.checked }
namespace Rows
def none {H : Type} : Left H := { results := [], args := [] }

/-- 'zzlaws_internal_pattern_b1.FnPatternMatchIsGlobOverComponents': WHATEVER THE INPUT: true; the input reads as it did. -/
def fnPatternMatchIsGlobOverComponentsSpec : ChangeSpec := { name := "fnPatternMatchIsGlobOverComponents", fn := fun _ => fun
  | [d1, d2, d3, d4] => { results := [.lit (.bool true)], args := [d1, d2, d3, d4] }
  | _ => none }
def fnPatternMatchIsGlobOverComponentsRow : OpenClaim := { program := "qxb6602868a", sum := "b023dc778228fd5064acb0f98b590dc74ecba6c39e34929b8430ff14125ca4b8", func := "example.com/wireproof/wireproof/zzlaws_internal_pattern_b1.FnPatternMatchIsGlobOverComponents", spec := "fnPatternMatchIsGlobOverComponents", unfollowed := true, recurses := true, apart := false }
def FnPatternMatchIsGlobOverComponentsSaid : Prop := fnPatternMatchIsGlobOverComponentsRow.holds Try.pinned (OpenSpec.ofChange fnPatternMatchIsGlobOverComponentsSpec)

/-- ITS FALSE NEIGHBOUR: 'it returns false'. Refute it at one input. -/
def fnPatternMatchIsGlobOverComponentsWrong : ChangeSpec := { name := "fnPatternMatchIsGlobOverComponents", fn := fun _ => fun
  | [d1, d2, d3, d4] => { results := [.lit (.bool false)], args := [d1, d2, d3, d4] }
  | _ => none }
def FnPatternMatchIsGlobOverComponentsWrongFalsely : Prop := fnPatternMatchIsGlobOverComponentsRow.holds Try.pinned (OpenSpec.ofChange fnPatternMatchIsGlobOverComponentsWrong)

/-- 'zzlaws_internal_pattern_b1.FnPatternMatchKeepsUnderInsertedDoubleStar': WHATEVER THE INPUT: true; the input reads as it did. -/
def fnPatternMatchKeepsUnderInsertedDoubleStarSpec : ChangeSpec := { name := "fnPatternMatchKeepsUnderInsertedDoubleStar", fn := fun _ => fun
  | [d1, d2, d3, d4, d5] => { results := [.lit (.bool true)], args := [d1, d2, d3, d4, d5] }
  | _ => none }
def fnPatternMatchKeepsUnderInsertedDoubleStarRow : OpenClaim := { program := "qxb6602868a", sum := "b023dc778228fd5064acb0f98b590dc74ecba6c39e34929b8430ff14125ca4b8", func := "example.com/wireproof/wireproof/zzlaws_internal_pattern_b1.FnPatternMatchKeepsUnderInsertedDoubleStar", spec := "fnPatternMatchKeepsUnderInsertedDoubleStar", unfollowed := true, recurses := true, apart := false }
def FnPatternMatchKeepsUnderInsertedDoubleStarSaid : Prop := fnPatternMatchKeepsUnderInsertedDoubleStarRow.holds Try.pinned (OpenSpec.ofChange fnPatternMatchKeepsUnderInsertedDoubleStarSpec)

/-- ITS FALSE NEIGHBOUR: 'it returns false'. Refute it at one input. -/
def fnPatternMatchKeepsUnderInsertedDoubleStarWrong : ChangeSpec := { name := "fnPatternMatchKeepsUnderInsertedDoubleStar", fn := fun _ => fun
  | [d1, d2, d3, d4, d5] => { results := [.lit (.bool false)], args := [d1, d2, d3, d4, d5] }
  | _ => none }
def FnPatternMatchKeepsUnderInsertedDoubleStarWrongFalsely : Prop := fnPatternMatchKeepsUnderInsertedDoubleStarRow.holds Try.pinned (OpenSpec.ofChange fnPatternMatchKeepsUnderInsertedDoubleStarWrong)

end Rows
end Go.Proofs.Qxb6602868a
