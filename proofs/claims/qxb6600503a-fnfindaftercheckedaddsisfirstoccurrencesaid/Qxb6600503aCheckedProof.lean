/-
  Rows.FnFindAfterCheckedAddsIsFirstOccurrenceSaid, proved.
-/
import Derived.Test.Qxb6600503aFrame2
import Derived.Test.Qxb6600503aCheckedWalk
namespace Go.Proofs.Qxb6600503a.fnFindAfterCheckedAddsIsFirstOccurrence
open Go.ChangeShapes Go.WideShapes Go.ChangeAt Go.RowKit

set_option maxRecDepth 100000 in
theorem lifted (os : Os) (started : os.Started) (H : Type) (enc : TypeId × Value → H) :
    ReturnsInHanded {} Try.checked os 3 .any (Rows.fnFindAfterCheckedAddsIsFirstOccurrenceSpec.pre6 enc Try.prog Try.f3 Rows.fnFindAfterCheckedAddsIsFirstOccurrenceRow.domain false) (Rows.fnFindAfterCheckedAddsIsFirstOccurrenceSpec.post enc Try.prog Try.f3 false true false false) := by
  refine returnsInHanded_of_change_sized (C := Try.checked) Try.own started (by kernel_rfl) Try.func3
    (ChangeSpec.witness6 (enc := enc) (C := Try.checked) false ⟨#[], #[.slice none 0 0, .slice none 0 0], []⟩ 8 (by kernel_rfl) (by kernel_rfl) (by kernel_rfl) (by kernel_rfl)) ?_
  intro W base args ds gs before hval0 hW _ hsz0 _
  have hsz : (DataW.weightsEach Try.prog (Try.f3.params.toList ++ Rows.fnFindAfterCheckedAddsIsFirstOccurrenceSpec.plain.varTypes Try.prog) (ds ++ gs)).all (· ≤ reachBytes) = true := hsz0
  clear hsz0
  have hval : ∀ (j : Nat) t v, Try.f3.params[j]? = some t → args[j]? = some v → Value.okWide Try.prog W .any base t v := hval0
  have hW' := hW
  obtain ⟨p, q, hA0, hV, rfl, _, _⟩ := hW
  have hA : DataW.TrodAll enc Try.prog W 0 (fun _ => true) true Try.f3.params.toList args.toList ds p := hA0
  rw [Try.params3] at hA hval hsz
  obtain ⟨v0, v1, d0, d1, p0, p1, rfl, rfl, rfl, h0, h1⟩ := trodAll_two hA
  obtain ⟨rfl, rfl⟩ := trodVars_none hV
  obtain ⟨a0, la, ca, rfl⟩ := okWide_slice Try.underlying22 (hval 0 22 v0 rfl rfl)
  obtain ⟨b0, lb, cb, rfl⟩ := okWide_slice Try.underlying22 (hval 1 22 v1 rfl rfl)
  clear hA0 hval0
  simp only [List.append_nil] at hW'
  have hlt : ∀ x ∈ p0 ++ p1, x.block < W.heap.size := fun x hx => by simpa using hW'.lt x hx
  obtain ⟨ns, hla, hs, hm, hz⟩ := open_names2 h0 hsz (j := 0) rfl rfl
  obtain ⟨qs, hlb, hs', hm', hz'⟩ := open_names2 h1 hsz (j := 1) rfl rfl
  refine (checked_walk a0 b0 la ca lb cb ns qs W hla hlb hm hm' hs hs' hz hz').mono fun e W' ⟨he, hnx⟩ => ?_
  subst he
  refine ⟨_, rfl, _, _, _, [], p0 ++ p1, [], hW', ?_, ?_, rfl, hnx.frame _, fun h => by cases h⟩
  · exact trodAll_mk1 (shut_bool Try.underlying4 true)
  · exact trodAll_mk2 (Below.trod Try.laidOut (by kernel_rfl) (of_decide_eq_true (by kernel_rfl)) h0 hnx (fun x hx => hlt x (List.mem_append_left _ hx))) (Below.trod Try.laidOut (by kernel_rfl) (of_decide_eq_true (by kernel_rfl)) h1 hnx (fun x hx => hlt x (List.mem_append_right _ hx)))

theorem over : Rows.fnFindAfterCheckedAddsIsFirstOccurrenceRow.holds Try.pinned (OpenSpec.ofChange Rows.fnFindAfterCheckedAddsIsFirstOccurrenceSpec) :=
  OpenClaim.holds_of_wide 3 Try.f3 rfl rfl rfl rfl rfl rfl rfl ⟨rfl, rfl, rfl, rfl, rfl⟩ rfl rfl rfl rfl rfl (by kernel_rfl) Try.func3 (by kernel_rfl)
    (of_decide_eq_true (by kernel_rfl)) (by unfold Func.isWrapper; first | (rw [if_pos (by decide +kernel)]; kernel_rfl) | (rw [if_neg (by decide +kernel)]; exact ⟨rfl, rfl⟩))
    (fun os started H enc _ => lifted os started H enc)

/-- THE STATEMENT -/
theorem proved : Rows.FnFindAfterCheckedAddsIsFirstOccurrenceSaid :=
  over
#print axioms proved
end Go.Proofs.Qxb6600503a.fnFindAfterCheckedAddsIsFirstOccurrence
