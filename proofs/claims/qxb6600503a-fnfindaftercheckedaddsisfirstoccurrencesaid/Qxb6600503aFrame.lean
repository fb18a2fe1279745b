/-
  What the three laws' proofs share: opening a slice of strings; the law's one end.
-/
import Derived.Test.Qxb6600503aClone
import Derived.ProofKit
import Derived.SizedLaws
namespace Go.Proofs.Qxb6600503a
open Go.ChangeShapes Go.WideShapes Go.ChangeAt Go.RowKit

theorem Try.own : ownKnob Try.prog.godebug = none := by kernel_rfl
theorem Try.laidOut : laidOutB Try.prog = true := by kernel_rfl
theorem Try.cells9 : Try.prog.cellsOf 9 = 1 := by kernel_rfl
theorem Try.bytes9 : Try.prog.bytesOf 9 = 16 := by kernel_rfl

/-- A slice of strings that came in: its cells, its length's bound. -/
theorem open_names {H : Type} {enc : TypeId × Value → H} {W : World} {a0 : Option Addr} {len cap : Nat} {d0 : DataW H} {p : List MemPlace} {ts : List TypeId} {ds : List (DataW H)} {j : Nat}
    (hf : DataW.Trod enc Try.prog W 0 (fun _ => true) true 22 (.slice a0 len cap) d0 p)
    (hsz : (DataW.weightsEach Try.prog ts ds).all (· ≤ reachBytes) = true) (ht : ts[j]? = some 22) (hd : ds[j]? = some d0) :
    ∃ ss, Strs W a0 len cap ss ∧ len * 16 ≤ 140737488351232 ∧ ∀ k, k < len → (ss.getD k ByteArray.empty).size ≤ maxLen := by
  obtain ⟨fuel, hf⟩ := hf
  rcases open_strings Try.underlying22 Try.underlying9 Try.cells9 hf with ⟨hcs, hx⟩ | ⟨a, len', cap', ss, hcs, _, hl, hm, hz, hx, hcell, hws⟩
  · simp [Value.cells] at hcs
    obtain ⟨rfl, rfl, rfl⟩ := hcs
    exact ⟨[], ⟨fun _ => ⟨rfl, rfl⟩, by simp⟩, by omega, fun k hk => by omega⟩
  · simp [Value.cells] at hcs
    obtain ⟨rfl, rfl, rfl⟩ := hcs
    simp only [Prod.mk.injEq] at hx
    obtain ⟨rfl, rfl⟩ := hx
    simp only [if_true] at hz
    have hreach : len * 16 ≤ 140737488351232 := by
      have := sized_slice hsz (j := j) (t := 22) (e := 9) ht hd Try.underlying22
      rw [Try.bytes9] at this
      simp only [strs, List.length_map, List.length_take, List.length_drop, reachBytes] at this
      omega
    refine ⟨ss, ⟨by simp, ?_⟩, hreach, ?_⟩
    · intro ad had k hk
      cases had
      exact hcell k (by omega)
    · intro k hk
      have hkl : k < ss.length := by omega
      have e : ss.getD k ByteArray.empty = ss[k] := by simp [hkl]
      rw [e]
      exact hws _ (List.getElem_mem hkl)

end Go.Proofs.Qxb6600503a
