/-
  No cell of these rows narrows 'for every input' (looked for: loops, veiled, ifaces, maps, wideKeys, modest, calm, conditions, laid).
  DERIVED. THE GIVEN ROWS OF THIS SEAT. 4 by the template 'for every input the law returns true; each argument reads behind the call as it read before'; 0 by the template 'total and deterministic' (their statements: Qxb6602844aTotals.lean).
  GIVEN WITH THE SEED: the statements are not yours to turn. If you find one false, say at which input.
  Laid BY PROGRAM, IN A SANDBOX (cutbox-rows.mjs): the forced cells as the released guide's own fill.sh prints them over the translation 77c45b347d2f612d… (all of the seat's roots in one cut). By AI agents, Wed Nov 11 2026. No macro, syntax, notation, axiom, sorry.
-/
import Derived.Test.Qxb6602844aChecked
import GoSem.Claim
import GoSem.ClaimJoined
import GoSem.ClaimMapViews
import Derived.JoinedTies
import Derived.KernelRfl
namespace Go.Proofs.Qxb6602844a
/- THE CELL 'sum', in the pinned program and in every row, IS THE sha256 OF THE DUMP (.gsa) THAT Qxb6602844aProg.lean LOADS. Nothing in Lean hashes anything: it is a label: what it is worth is what the hold of that sum in a sandbox is worth. -/
noncomputable def Try.pinned : Pinned := { name := "qxb6602844a", sum := "77c45b347d2f612d96ae3747710a31f91ddf022f637ad499c1eae42142ce3468", checked := Try.checked }
namespace Rows
def none {H : Type} : Left H := { results := [], args := [] }

/-- 'zzlaws_outbox_b1.FnPostgreSQLSplicesTableIntoOneTemplate': WHATEVER THE INPUT: true; the input reads as it did. -/
def fnPostgreSQLSplicesTableIntoOneTemplateSpec : ChangeSpec := { name := "fnPostgreSQLSplicesTableIntoOneTemplate", fn := fun _ => fun
  | [d] => { results := [.lit (.bool true)], args := [d] }
  | _ => none }
def fnPostgreSQLSplicesTableIntoOneTemplateRow : OpenClaim := { program := "qxb6602844a", sum := "77c45b347d2f612d96ae3747710a31f91ddf022f637ad499c1eae42142ce3468", func := "example.com/txbound/txbound/zzlaws_outbox_b1.FnPostgreSQLSplicesTableIntoOneTemplate", spec := "fnPostgreSQLSplicesTableIntoOneTemplate", apart := false }
def FnPostgreSQLSplicesTableIntoOneTemplateSaid : Prop := fnPostgreSQLSplicesTableIntoOneTemplateRow.holds Try.pinned (OpenSpec.ofChange fnPostgreSQLSplicesTableIntoOneTemplateSpec)

/-- ITS FALSE NEIGHBOUR: 'it returns false'. Refute it at one input. -/
def fnPostgreSQLSplicesTableIntoOneTemplateWrong : ChangeSpec := { name := "fnPostgreSQLSplicesTableIntoOneTemplate", fn := fun _ => fun
  | [d] => { results := [.lit (.bool false)], args := [d] }
  | _ => none }
def FnPostgreSQLSplicesTableIntoOneTemplateWrongFalsely : Prop := fnPostgreSQLSplicesTableIntoOneTemplateRow.holds Try.pinned (OpenSpec.ofChange fnPostgreSQLSplicesTableIntoOneTemplateWrong)

/-- 'zzlaws_outbox_b1.FnPostgreSQLPlaceholdersMatchDocumentedArguments': WHATEVER THE INPUT: true; the input reads as it did. -/
def fnPostgreSQLPlaceholdersMatchDocumentedArgumentsSpec : ChangeSpec := { name := "fnPostgreSQLPlaceholdersMatchDocumentedArguments", fn := fun _ => fun
  | [d] => { results := [.lit (.bool true)], args := [d] }
  | _ => none }
def fnPostgreSQLPlaceholdersMatchDocumentedArgumentsRow : OpenClaim := { program := "qxb6602844a", sum := "77c45b347d2f612d96ae3747710a31f91ddf022f637ad499c1eae42142ce3468", func := "example.com/txbound/txbound/zzlaws_outbox_b1.FnPostgreSQLPlaceholdersMatchDocumentedArguments", spec := "fnPostgreSQLPlaceholdersMatchDocumentedArguments", apart := false }
def FnPostgreSQLPlaceholdersMatchDocumentedArgumentsSaid : Prop := fnPostgreSQLPlaceholdersMatchDocumentedArgumentsRow.holds Try.pinned (OpenSpec.ofChange fnPostgreSQLPlaceholdersMatchDocumentedArgumentsSpec)

/-- ITS FALSE NEIGHBOUR: 'it returns false'. Refute it at one input. -/
def fnPostgreSQLPlaceholdersMatchDocumentedArgumentsWrong : ChangeSpec := { name := "fnPostgreSQLPlaceholdersMatchDocumentedArguments", fn := fun _ => fun
  | [d] => { results := [.lit (.bool false)], args := [d] }
  | _ => none }
def FnPostgreSQLPlaceholdersMatchDocumentedArgumentsWrongFalsely : Prop := fnPostgreSQLPlaceholdersMatchDocumentedArgumentsRow.holds Try.pinned (OpenSpec.ofChange fnPostgreSQLPlaceholdersMatchDocumentedArgumentsWrong)

/-- 'zzlaws_outbox_b1.FnMariaDBSplicesTableIntoOneTemplate': WHATEVER THE INPUT: true; the input reads as it did. -/
def fnMariaDBSplicesTableIntoOneTemplateSpec : ChangeSpec := { name := "fnMariaDBSplicesTableIntoOneTemplate", fn := fun _ => fun
  | [d] => { results := [.lit (.bool true)], args := [d] }
  | _ => none }
def fnMariaDBSplicesTableIntoOneTemplateRow : OpenClaim := { program := "qxb6602844a", sum := "77c45b347d2f612d96ae3747710a31f91ddf022f637ad499c1eae42142ce3468", func := "example.com/txbound/txbound/zzlaws_outbox_b1.FnMariaDBSplicesTableIntoOneTemplate", spec := "fnMariaDBSplicesTableIntoOneTemplate", apart := false }
def FnMariaDBSplicesTableIntoOneTemplateSaid : Prop := fnMariaDBSplicesTableIntoOneTemplateRow.holds Try.pinned (OpenSpec.ofChange fnMariaDBSplicesTableIntoOneTemplateSpec)

/-- ITS FALSE NEIGHBOUR: 'it returns false'. Refute it at one input. -/
def fnMariaDBSplicesTableIntoOneTemplateWrong : ChangeSpec := { name := "fnMariaDBSplicesTableIntoOneTemplate", fn := fun _ => fun
  | [d] => { results := [.lit (.bool false)], args := [d] }
  | _ => none }
def FnMariaDBSplicesTableIntoOneTemplateWrongFalsely : Prop := fnMariaDBSplicesTableIntoOneTemplateRow.holds Try.pinned (OpenSpec.ofChange fnMariaDBSplicesTableIntoOneTemplateWrong)

/-- 'zzlaws_outbox_b1.FnMariaDBPlaceholdersMatchDocumentedArguments': WHATEVER THE INPUT: true; the input reads as it did. -/
def fnMariaDBPlaceholdersMatchDocumentedArgumentsSpec : ChangeSpec := { name := "fnMariaDBPlaceholdersMatchDocumentedArguments", fn := fun _ => fun
  | [d] => { results := [.lit (.bool true)], args := [d] }
  | _ => none }
def fnMariaDBPlaceholdersMatchDocumentedArgumentsRow : OpenClaim := { program := "qxb6602844a", sum := "77c45b347d2f612d96ae3747710a31f91ddf022f637ad499c1eae42142ce3468", func := "example.com/txbound/txbound/zzlaws_outbox_b1.FnMariaDBPlaceholdersMatchDocumentedArguments", spec := "fnMariaDBPlaceholdersMatchDocumentedArguments", apart := false }
def FnMariaDBPlaceholdersMatchDocumentedArgumentsSaid : Prop := fnMariaDBPlaceholdersMatchDocumentedArgumentsRow.holds Try.pinned (OpenSpec.ofChange fnMariaDBPlaceholdersMatchDocumentedArgumentsSpec)

/-- ITS FALSE NEIGHBOUR: 'it returns false'. Refute it at one input. -/
def fnMariaDBPlaceholdersMatchDocumentedArgumentsWrong : ChangeSpec := { name := "fnMariaDBPlaceholdersMatchDocumentedArguments", fn := fun _ => fun
  | [d] => { results := [.lit (.bool false)], args := [d] }
  | _ => none }
def FnMariaDBPlaceholdersMatchDocumentedArgumentsWrongFalsely : Prop := fnMariaDBPlaceholdersMatchDocumentedArgumentsRow.holds Try.pinned (OpenSpec.ofChange fnMariaDBPlaceholdersMatchDocumentedArgumentsWrong)

end Rows
end Go.Proofs.Qxb6602844a
