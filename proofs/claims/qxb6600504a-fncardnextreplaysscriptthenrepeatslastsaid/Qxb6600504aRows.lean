/-
  No cell of these rows narrows 'for every input' (looked for: loops, veiled, ifaces, maps, wideKeys, modest, calm, conditions, laid).
  DERIVED. THE GIVEN ROWS OF THIS SEAT. 2 by the template 'for every input the law returns true; each argument reads behind the call as it read before'; 0 by the template 'total and deterministic' (their statements: Qxb6600504aTotals.lean).
  GIVEN WITH THE SEED: the statements are not yours to turn. If you find one false, say at which input.
  Laid BY PROGRAM, IN A SANDBOX (cutbox-rows.mjs): the forced cells as the released guide's own fill.sh prints them over the translation 927e2dcb238f1e48… (all of the seat's roots in one cut). By AI agents, Wed Nov 11 2026. No macro, syntax, notation, axiom, sorry.
-/
import Derived.Test.Qxb6600504aChecked
import GoSem.Claim
import GoSem.ClaimJoined
import GoSem.ClaimMapViews
import Derived.JoinedTies
import Derived.KernelRfl
namespace Go.Proofs.Qxb6600504a
/- THE CELL 'sum', in the pinned program and in every row, IS THE sha256 OF THE DUMP (.gsa) THAT Qxb6600504aProg.lean LOADS. Nothing in Lean hashes anything: it is a label: what it is worth is what the hold of that sum in a sandbox is worth. -/
noncomputable def Try.pinned : Pinned := { name := "qxb6600504a", sum := "927e2dcb238f1e48790683877f3ad0832ed1070dc97e43bcb58c4254d97be646", checked := Try.checked }
namespace Rows
def none {H : Type} : Left H := { results := [], args := [] }

/-- 'zzlaws_internal_sandbox_b1.FnCardNextReplaysScriptThenRepeatsLast': WHATEVER THE INPUT: true; the input reads as it did. -/
def fnCardNextReplaysScriptThenRepeatsLastSpec : ChangeSpec := { name := "fnCardNextReplaysScriptThenRepeatsLast", fn := fun _ => fun
  | [d1, d2] => { results := [.lit (.bool true)], args := [d1, d2] }
  | _ => none }
def fnCardNextReplaysScriptThenRepeatsLastRow : OpenClaim := { program := "qxb6600504a", sum := "927e2dcb238f1e48790683877f3ad0832ed1070dc97e43bcb58c4254d97be646", func := "example.com/tenure/tenure/zzlaws_internal_sandbox_b1.FnCardNextReplaysScriptThenRepeatsLast", spec := "fnCardNextReplaysScriptThenRepeatsLast", apart := false }
def FnCardNextReplaysScriptThenRepeatsLastSaid : Prop := fnCardNextReplaysScriptThenRepeatsLastRow.holds Try.pinned (OpenSpec.ofChange fnCardNextReplaysScriptThenRepeatsLastSpec)

/-- ITS FALSE NEIGHBOUR: 'it returns false'. Refute it at one input. -/
def fnCardNextReplaysScriptThenRepeatsLastWrong : ChangeSpec := { name := "fnCardNextReplaysScriptThenRepeatsLast", fn := fun _ => fun
  | [d1, d2] => { results := [.lit (.bool false)], args := [d1, d2] }
  | _ => none }
def FnCardNextReplaysScriptThenRepeatsLastWrongFalsely : Prop := fnCardNextReplaysScriptThenRepeatsLastRow.holds Try.pinned (OpenSpec.ofChange fnCardNextReplaysScriptThenRepeatsLastWrong)

/-- 'zzlaws_internal_sandbox_b1.FnCardNextKeepsEarlyLettersWhenScriptGrows': WHATEVER THE INPUT: true; the input reads as it did. -/
def fnCardNextKeepsEarlyLettersWhenScriptGrowsSpec : ChangeSpec := { name := "fnCardNextKeepsEarlyLettersWhenScriptGrows", fn := fun _ => fun
  | [d1, d2, d3] => { results := [.lit (.bool true)], args := [d1, d2, d3] }
  | _ => none }
def fnCardNextKeepsEarlyLettersWhenScriptGrowsRow : OpenClaim := { program := "qxb6600504a", sum := "927e2dcb238f1e48790683877f3ad0832ed1070dc97e43bcb58c4254d97be646", func := "example.com/tenure/tenure/zzlaws_internal_sandbox_b1.FnCardNextKeepsEarlyLettersWhenScriptGrows", spec := "fnCardNextKeepsEarlyLettersWhenScriptGrows", apart := false }
def FnCardNextKeepsEarlyLettersWhenScriptGrowsSaid : Prop := fnCardNextKeepsEarlyLettersWhenScriptGrowsRow.holds Try.pinned (OpenSpec.ofChange fnCardNextKeepsEarlyLettersWhenScriptGrowsSpec)

/-- ITS FALSE NEIGHBOUR: 'it returns false'. Refute it at one input. -/
def fnCardNextKeepsEarlyLettersWhenScriptGrowsWrong : ChangeSpec := { name := "fnCardNextKeepsEarlyLettersWhenScriptGrows", fn := fun _ => fun
  | [d1, d2, d3] => { results := [.lit (.bool false)], args := [d1, d2, d3] }
  | _ => none }
def FnCardNextKeepsEarlyLettersWhenScriptGrowsWrongFalsely : Prop := fnCardNextKeepsEarlyLettersWhenScriptGrowsRow.holds Try.pinned (OpenSpec.ofChange fnCardNextKeepsEarlyLettersWhenScriptGrowsWrong)

end Rows
end Go.Proofs.Qxb6600504a
