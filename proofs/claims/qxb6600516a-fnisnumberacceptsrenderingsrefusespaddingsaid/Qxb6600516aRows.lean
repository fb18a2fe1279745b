/-
  No cell of these rows narrows 'for every input' (looked for: loops, veiled, ifaces, maps, wideKeys, modest, calm, conditions, laid).
  DERIVED. THE GIVEN ROWS OF THIS SEAT. 3 by the template 'for every input the law returns true; each argument reads behind the call as it read before'; 0 by the template 'total and deterministic' (their statements: Qxb6600516aTotals.lean).
  GIVEN WITH THE SEED: the statements are not yours to turn. If you find one false, say at which input.
  Laid BY PROGRAM, IN A SANDBOX (cutbox-rows.mjs): the forced cells as the released guide's own fill.sh prints them over the translation e8b4a94460d07f69… (all of the seat's roots in one cut). By AI agents, Wed Nov 11 2026. No macro, syntax, notation, axiom, sorry.
-/
import Derived.Test.Qxb6600516aChecked
import GoSem.Claim
import GoSem.ClaimJoined
import GoSem.ClaimMapViews
import Derived.JoinedTies
import Derived.KernelRfl
namespace Go.Proofs.Qxb6600516a
/- THE CELL 'sum', in the pinned program and in every row, IS THE sha256 OF THE DUMP (.gsa) THAT Qxb6600516aProg.lean LOADS. Nothing in Lean hashes anything: it is a label: what it is worth is what the hold of that sum in a sandbox is worth. -/
noncomputable def Try.pinned : Pinned := { name := "qxb6600516a", sum := "e8b4a94460d07f69ac73d092dae86c94e1cc3181131c298df140ce1bdb6c16ba", checked := Try.checked }
namespace Rows
def none {H : Type} : Left H := { results := [], args := [] }

/-- 'zzlaws_semver_b1.FnIsNumberMatchesCanonicalDecimal': WHATEVER THE INPUT: true; the input reads as it did. -/
def fnIsNumberMatchesCanonicalDecimalSpec : ChangeSpec := { name := "fnIsNumberMatchesCanonicalDecimal", fn := fun _ => fun
  | [d] => { results := [.lit (.bool true)], args := [d] }
  | _ => none }
def fnIsNumberMatchesCanonicalDecimalRow : OpenClaim := { program := "qxb6600516a", sum := "e8b4a94460d07f69ac73d092dae86c94e1cc3181131c298df140ce1bdb6c16ba", func := "example.com/parcelwright/parcelwright/zzlaws_semver_b1.FnIsNumberMatchesCanonicalDecimal", spec := "fnIsNumberMatchesCanonicalDecimal", apart := false }
def FnIsNumberMatchesCanonicalDecimalSaid : Prop := fnIsNumberMatchesCanonicalDecimalRow.holds Try.pinned (OpenSpec.ofChange fnIsNumberMatchesCanonicalDecimalSpec)

/-- ITS FALSE NEIGHBOUR: 'it returns false'. Refute it at one input. -/
def fnIsNumberMatchesCanonicalDecimalWrong : ChangeSpec := { name := "fnIsNumberMatchesCanonicalDecimal", fn := fun _ => fun
  | [d] => { results := [.lit (.bool false)], args := [d] }
  | _ => none }
def FnIsNumberMatchesCanonicalDecimalWrongFalsely : Prop := fnIsNumberMatchesCanonicalDecimalRow.holds Try.pinned (OpenSpec.ofChange fnIsNumberMatchesCanonicalDecimalWrong)

/-- 'zzlaws_semver_b1.FnIsNumberAcceptsRenderingsRefusesPadding': WHATEVER THE INPUT: true; the input reads as it did. -/
def fnIsNumberAcceptsRenderingsRefusesPaddingSpec : ChangeSpec := { name := "fnIsNumberAcceptsRenderingsRefusesPadding", fn := fun _ => fun
  | [d] => { results := [.lit (.bool true)], args := [d] }
  | _ => none }
def fnIsNumberAcceptsRenderingsRefusesPaddingRow : OpenClaim := { program := "qxb6600516a", sum := "e8b4a94460d07f69ac73d092dae86c94e1cc3181131c298df140ce1bdb6c16ba", func := "example.com/parcelwright/parcelwright/zzlaws_semver_b1.FnIsNumberAcceptsRenderingsRefusesPadding", spec := "fnIsNumberAcceptsRenderingsRefusesPadding", apart := false }
def FnIsNumberAcceptsRenderingsRefusesPaddingSaid : Prop := fnIsNumberAcceptsRenderingsRefusesPaddingRow.holds Try.pinned (OpenSpec.ofChange fnIsNumberAcceptsRenderingsRefusesPaddingSpec)

/-- ITS FALSE NEIGHBOUR: 'it returns false'. Refute it at one input. -/
def fnIsNumberAcceptsRenderingsRefusesPaddingWrong : ChangeSpec := { name := "fnIsNumberAcceptsRenderingsRefusesPadding", fn := fun _ => fun
  | [d] => { results := [.lit (.bool false)], args := [d] }
  | _ => none }
def FnIsNumberAcceptsRenderingsRefusesPaddingWrongFalsely : Prop := fnIsNumberAcceptsRenderingsRefusesPaddingRow.holds Try.pinned (OpenSpec.ofChange fnIsNumberAcceptsRenderingsRefusesPaddingWrong)

/-- 'zzlaws_semver_b1.FnIsNumberExtendedByOneDigit': WHATEVER THE INPUT: true; the input reads as it did. -/
def fnIsNumberExtendedByOneDigitSpec : ChangeSpec := { name := "fnIsNumberExtendedByOneDigit", fn := fun _ => fun
  | [d1, d2] => { results := [.lit (.bool true)], args := [d1, d2] }
  | _ => none }
def fnIsNumberExtendedByOneDigitRow : OpenClaim := { program := "qxb6600516a", sum := "e8b4a94460d07f69ac73d092dae86c94e1cc3181131c298df140ce1bdb6c16ba", func := "example.com/parcelwright/parcelwright/zzlaws_semver_b1.FnIsNumberExtendedByOneDigit", spec := "fnIsNumberExtendedByOneDigit", apart := false }
def FnIsNumberExtendedByOneDigitSaid : Prop := fnIsNumberExtendedByOneDigitRow.holds Try.pinned (OpenSpec.ofChange fnIsNumberExtendedByOneDigitSpec)

/-- ITS FALSE NEIGHBOUR: 'it returns false'. Refute it at one input. -/
def fnIsNumberExtendedByOneDigitWrong : ChangeSpec := { name := "fnIsNumberExtendedByOneDigit", fn := fun _ => fun
  | [d1, d2] => { results := [.lit (.bool false)], args := [d1, d2] }
  | _ => none }
def FnIsNumberExtendedByOneDigitWrongFalsely : Prop := fnIsNumberExtendedByOneDigitRow.holds Try.pinned (OpenSpec.ofChange fnIsNumberExtendedByOneDigitWrong)

end Rows
end Go.Proofs.Qxb6600516a
