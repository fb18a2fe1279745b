/-
  Rows.FnIsNumberAcceptsRenderingsRefusesPaddingSaid, proved.
-/
import Derived.Test.Qxb6600516aAcceptsWalk
import Derived.ProofKit
namespace Go.Proofs.Qxb6600516a.fnIsNumberAcceptsRenderingsRefusesPadding
open Go.ChangeShapes Go.WideShapes Go.ChangeAt Go.RowKit
open Go.ChangeMaps (open_string shut_string)

theorem own : ownKnob Try.prog.godebug = none := by kernel_rfl

theorem walk (a0 : Int) (w0 : (Lit.int .u64 a0).wf = true) (w : World) :
    Calls Try.prog 4 #[.int .u64 a0] w fun e w' => e = .returned (.bool true) ∧ Below w.heap.size w w' := by
  have h1 : IntKind.u64.min = 0 := rfl
  have h2 : IntKind.u64.max = 18446744073709551615 := rfl
  simp only [Lit.wf, Bool.and_eq_true, decide_eq_true_eq] at w0
  obtain ⟨n, rfl⟩ : ∃ n : Nat, a0 = n := ⟨a0.toNat, by omega⟩
  exact accepts_walk n w (by omega)

set_option maxRecDepth 100000 in
theorem lifted (os : Os) (started : os.Started) (H : Type) (enc : TypeId × Value → H) :
    ReturnsInHanded {} Try.checked os 4 .any (Rows.fnIsNumberAcceptsRenderingsRefusesPaddingSpec.pre6 enc Try.prog Try.f4 Rows.fnIsNumberAcceptsRenderingsRefusesPaddingRow.domain false) (Rows.fnIsNumberAcceptsRenderingsRefusesPaddingSpec.post enc Try.prog Try.f4 false true false false) := by
  refine returnsInHanded_of_change (C := Try.checked) own started (by kernel_rfl) Try.func4
    (ChangeSpec.witness6 (enc := enc) (C := Try.checked) false ⟨#[], #[.int .u64 0], []⟩ 8 (by kernel_rfl) (by kernel_rfl) (by kernel_rfl) (by kernel_rfl)) ?_
  intro W base args ds gs before hval0 hW _ _
  have hval : ∀ (j : Nat) t v, Try.f4.params[j]? = some t → args[j]? = some v → Value.okWide Try.prog W .any base t v := hval0
  have hW' := hW
  obtain ⟨p, q, hA0, hV, rfl, _, _⟩ := hW
  have hA : DataW.TrodAll enc Try.prog W 0 (fun _ => true) true Try.f4.params.toList args.toList ds p := hA0
  rw [Try.params4] at hA hval
  obtain ⟨v0, d0, rfl, rfl, h0⟩ := trodAll_one hA
  obtain ⟨rfl, rfl⟩ := trodVars_none hV
  obtain ⟨a0, rfl, rfl, rfl, w0⟩ := open_int Try.underlying24 (hval 0 24 v0 rfl rfl) h0
  clear hA0 hval0
  simp only [List.append_nil] at hW'
  refine (walk a0 w0 W).mono fun e W' ⟨he, hnx⟩ => ?_
  subst he
  refine ⟨_, rfl, _, _, _, [], [], [], hW', ?_, ?_, rfl, hnx.frame _, fun h => by cases h⟩
  · exact trodAll_mk1 (shut_bool Try.underlying4 true)
  · exact trodAll_mk1 (shut_int Try.underlying24 w0)

theorem over : Rows.fnIsNumberAcceptsRenderingsRefusesPaddingRow.holds Try.pinned (OpenSpec.ofChange Rows.fnIsNumberAcceptsRenderingsRefusesPaddingSpec) :=
  OpenClaim.holds_of_wide 4 Try.f4 rfl rfl rfl rfl rfl rfl rfl ⟨rfl, rfl, rfl, rfl, rfl⟩ rfl rfl rfl rfl rfl (by kernel_rfl) Try.func4 (by kernel_rfl)
    (of_decide_eq_true (by kernel_rfl)) (by unfold Func.isWrapper; first | (rw [if_pos (by decide +kernel)]; kernel_rfl) | (rw [if_neg (by decide +kernel)]; exact ⟨rfl, rfl⟩))
    (fun os started H enc _ => lifted os started H enc)

/-- THE STATEMENT -/
theorem proved : Rows.FnIsNumberAcceptsRenderingsRefusesPaddingSaid :=
  over
#print axioms proved
end Go.Proofs.Qxb6600516a.fnIsNumberAcceptsRenderingsRefusesPadding
