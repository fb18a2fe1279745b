/-
  Rows.FnAddKeepsEveryKeyInOrderSaid, proved.
-/
import Derived.Test.Qxb6600503aFrame
import Derived.Test.Qxb6600503aKeepsWalk
namespace Go.Proofs.Qxb6600503a.fnAddKeepsEveryKeyInOrder
open Go.ChangeShapes Go.WideShapes Go.ChangeAt Go.RowKit

theorem walk (a0 : Option Addr) (len cap : Nat) (ss : List ByteArray) (W : World) (hs : Strs W a0 len cap ss) (hm : len * 16 ≤ 140737488351232) (hz : ∀ k, k < len → (ss.getD k ByteArray.empty).size ≤ maxLen) :
    Calls Try.prog 4 #[.slice a0 len cap] W fun e w' => e = .returned (.bool true) ∧ Below W.heap.size W w' := by
  cases a0 with
  | none =>
    obtain ⟨rfl, rfl⟩ := hs.nil rfl
    exact keeps_nil W
  | some ad => exact keeps_some ad len cap ss W hm hs hz

set_option maxRecDepth 100000 in
theorem lifted (os : Os) (started : os.Started) (H : Type) (enc : TypeId × Value → H) :
    ReturnsInHanded {} Try.checked os 4 .any (Rows.fnAddKeepsEveryKeyInOrderSpec.pre6 enc Try.prog Try.f4 Rows.fnAddKeepsEveryKeyInOrderRow.domain false) (Rows.fnAddKeepsEveryKeyInOrderSpec.post enc Try.prog Try.f4 false true false false) := by
  refine returnsInHanded_of_change_sized (C := Try.checked) Try.own started (by kernel_rfl) Try.func4
    (ChangeSpec.witness6 (enc := enc) (C := Try.checked) false ⟨#[], #[.slice none 0 0], []⟩ 8 (by kernel_rfl) (by kernel_rfl) (by kernel_rfl) (by kernel_rfl)) ?_
  intro W base args ds gs before hval0 hW _ hsz0 _
  have hsz : (DataW.weightsEach Try.prog (Try.f4.params.toList ++ Rows.fnAddKeepsEveryKeyInOrderSpec.plain.varTypes Try.prog) (ds ++ gs)).all (· ≤ reachBytes) = true := hsz0
  clear hsz0
  have hval : ∀ (j : Nat) t v, Try.f4.params[j]? = some t → args[j]? = some v → Value.okWide Try.prog W .any base t v := hval0
  have hW' := hW
  obtain ⟨p, q, hA0, hV, rfl, _, _⟩ := hW
  have hA : DataW.TrodAll enc Try.prog W 0 (fun _ => true) true Try.f4.params.toList args.toList ds p := hA0
  rw [Try.params4] at hA hval hsz
  obtain ⟨v0, d0, rfl, rfl, h0⟩ := trodAll_one hA
  obtain ⟨rfl, rfl⟩ := trodVars_none hV
  obtain ⟨a0, len, cap, rfl⟩ := okWide_slice Try.underlying22 (hval 0 22 v0 rfl rfl)
  clear hA0 hval0
  simp only [List.append_nil] at hW'
  have hlt : ∀ x ∈ p, x.block < W.heap.size := fun x hx => by simpa using hW'.lt x hx
  obtain ⟨ss, hs, hm, hz⟩ := open_names h0 hsz (j := 0) rfl rfl
  refine (walk a0 len cap ss W hs hm hz).mono fun e W' ⟨he, hnx⟩ => ?_
  subst he
  refine ⟨_, rfl, _, _, _, [], p, [], hW', ?_, ?_, rfl, hnx.frame _, fun h => by cases h⟩
  · exact trodAll_mk1 (shut_bool Try.underlying4 true)
  · exact trodAll_mk1 (Below.trod Try.laidOut (by kernel_rfl) (of_decide_eq_true (by kernel_rfl)) h0 hnx hlt)

theorem over : Rows.fnAddKeepsEveryKeyInOrderRow.holds Try.pinned (OpenSpec.ofChange Rows.fnAddKeepsEveryKeyInOrderSpec) :=
  OpenClaim.holds_of_wide 4 Try.f4 rfl rfl rfl rfl rfl rfl rfl ⟨rfl, rfl, rfl, rfl, rfl⟩ rfl rfl rfl rfl rfl (by kernel_rfl) Try.func4 (by kernel_rfl)
    (of_decide_eq_true (by kernel_rfl)) (by unfold Func.isWrapper; first | (rw [if_pos (by decide +kernel)]; kernel_rfl) | (rw [if_neg (by decide +kernel)]; exact ⟨rfl, rfl⟩))
    (fun os started H enc _ => lifted os started H enc)

/-- THE STATEMENT -/
theorem proved : Rows.FnAddKeepsEveryKeyInOrderSaid :=
  over
#print axioms proved
end Go.Proofs.Qxb6600503a.fnAddKeepsEveryKeyInOrder
