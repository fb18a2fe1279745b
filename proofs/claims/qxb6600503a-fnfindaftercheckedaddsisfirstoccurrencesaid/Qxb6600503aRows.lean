/-
  No cell of these rows narrows 'for every input' (looked for: loops, veiled, ifaces, maps, wideKeys, modest, calm, conditions, laid).
  DERIVED. THE GIVEN ROWS OF THIS SEAT. 3 by the template 'for every input the law returns true; each argument reads behind the call as it read before'; 0 by the template 'total and deterministic' (their statements: Qxb6600503aTotals.lean).
  GIVEN WITH THE SEED: the statements are not yours to turn. If you find one false, say at which input.
  Laid BY PROGRAM, IN A SANDBOX (cutbox-rows.mjs): the forced cells as the released guide's own fill.sh prints them over the translation 61bc028fa142ae9d… (all of the seat's roots in one cut). By AI agents, Wed Nov 11 2026. No macro, syntax, notation, axiom, sorry.
-/
import Derived.Test.Qxb6600503aChecked
import GoSem.Claim
import GoSem.ClaimJoined
import GoSem.ClaimMapViews
import Derived.JoinedTies
import Derived.KernelRfl
namespace Go.Proofs.Qxb6600503a
/- THE CELL 'sum', in the pinned program and in every row, IS THE sha256 OF THE DUMP (.gsa) THAT Qxb6600503aProg.lean LOADS. Nothing in Lean hashes anything: it is a label: what it is worth is what the hold of that sum in a sandbox is worth. -/
noncomputable def Try.pinned : Pinned := { name := "qxb6600503a", sum := "61bc028fa142ae9d2226fdf97f38dddf57c03bc38a8c09ac91924e0f0b77fb7c", checked := Try.checked }
namespace Rows
def none {H : Type} : Left H := { results := [], args := [] }

/-- 'zzlaws_pkg_tomlfile_b1.FnFindAfterCheckedAddsIsFirstOccurrence': WHATEVER THE INPUT: true; the input reads as it did. -/
def fnFindAfterCheckedAddsIsFirstOccurrenceSpec : ChangeSpec := { name := "fnFindAfterCheckedAddsIsFirstOccurrence", fn := fun _ => fun
  | [d1, d2] => { results := [.lit (.bool true)], args := [d1, d2] }
  | _ => none }
def fnFindAfterCheckedAddsIsFirstOccurrenceRow : OpenClaim := { program := "qxb6600503a", sum := "61bc028fa142ae9d2226fdf97f38dddf57c03bc38a8c09ac91924e0f0b77fb7c", func := "example.com/vestline/vestline/zzlaws_pkg_tomlfile_b1.FnFindAfterCheckedAddsIsFirstOccurrence", spec := "fnFindAfterCheckedAddsIsFirstOccurrence", apart := false }
def FnFindAfterCheckedAddsIsFirstOccurrenceSaid : Prop := fnFindAfterCheckedAddsIsFirstOccurrenceRow.holds Try.pinned (OpenSpec.ofChange fnFindAfterCheckedAddsIsFirstOccurrenceSpec)

/-- ITS FALSE NEIGHBOUR: 'it returns false'. Refute it at one input. -/
def fnFindAfterCheckedAddsIsFirstOccurrenceWrong : ChangeSpec := { name := "fnFindAfterCheckedAddsIsFirstOccurrence", fn := fun _ => fun
  | [d1, d2] => { results := [.lit (.bool false)], args := [d1, d2] }
  | _ => none }
def FnFindAfterCheckedAddsIsFirstOccurrenceWrongFalsely : Prop := fnFindAfterCheckedAddsIsFirstOccurrenceRow.holds Try.pinned (OpenSpec.ofChange fnFindAfterCheckedAddsIsFirstOccurrenceWrong)

/-- 'zzlaws_pkg_tomlfile_b1.FnAddKeepsEveryKeyInOrder': WHATEVER THE INPUT: true; the input reads as it did. -/
def fnAddKeepsEveryKeyInOrderSpec : ChangeSpec := { name := "fnAddKeepsEveryKeyInOrder", fn := fun _ => fun
  | [d] => { results := [.lit (.bool true)], args := [d] }
  | _ => none }
def fnAddKeepsEveryKeyInOrderRow : OpenClaim := { program := "qxb6600503a", sum := "61bc028fa142ae9d2226fdf97f38dddf57c03bc38a8c09ac91924e0f0b77fb7c", func := "example.com/vestline/vestline/zzlaws_pkg_tomlfile_b1.FnAddKeepsEveryKeyInOrder", spec := "fnAddKeepsEveryKeyInOrder", apart := false }
def FnAddKeepsEveryKeyInOrderSaid : Prop := fnAddKeepsEveryKeyInOrderRow.holds Try.pinned (OpenSpec.ofChange fnAddKeepsEveryKeyInOrderSpec)

/-- ITS FALSE NEIGHBOUR: 'it returns false'. Refute it at one input. -/
def fnAddKeepsEveryKeyInOrderWrong : ChangeSpec := { name := "fnAddKeepsEveryKeyInOrder", fn := fun _ => fun
  | [d] => { results := [.lit (.bool false)], args := [d] }
  | _ => none }
def FnAddKeepsEveryKeyInOrderWrongFalsely : Prop := fnAddKeepsEveryKeyInOrderRow.holds Try.pinned (OpenSpec.ofChange fnAddKeepsEveryKeyInOrderWrong)

/-- 'zzlaws_pkg_tomlfile_b1.FnFindAfterAnyAddsFirstThenLast': WHATEVER THE INPUT: true; the input reads as it did. -/
def fnFindAfterAnyAddsFirstThenLastSpec : ChangeSpec := { name := "fnFindAfterAnyAddsFirstThenLast", fn := fun _ => fun
  | [d1, d2] => { results := [.lit (.bool true)], args := [d1, d2] }
  | _ => none }
def fnFindAfterAnyAddsFirstThenLastRow : OpenClaim := { program := "qxb6600503a", sum := "61bc028fa142ae9d2226fdf97f38dddf57c03bc38a8c09ac91924e0f0b77fb7c", func := "example.com/vestline/vestline/zzlaws_pkg_tomlfile_b1.FnFindAfterAnyAddsFirstThenLast", spec := "fnFindAfterAnyAddsFirstThenLast", apart := false }
def FnFindAfterAnyAddsFirstThenLastSaid : Prop := fnFindAfterAnyAddsFirstThenLastRow.holds Try.pinned (OpenSpec.ofChange fnFindAfterAnyAddsFirstThenLastSpec)

/-- ITS FALSE NEIGHBOUR: 'it returns false'. Refute it at one input. -/
def fnFindAfterAnyAddsFirstThenLastWrong : ChangeSpec := { name := "fnFindAfterAnyAddsFirstThenLast", fn := fun _ => fun
  | [d1, d2] => { results := [.lit (.bool false)], args := [d1, d2] }
  | _ => none }
def FnFindAfterAnyAddsFirstThenLastWrongFalsely : Prop := fnFindAfterAnyAddsFirstThenLastRow.holds Try.pinned (OpenSpec.ofChange fnFindAfterAnyAddsFirstThenLastWrong)

end Rows
end Go.Proofs.Qxb6600503a
