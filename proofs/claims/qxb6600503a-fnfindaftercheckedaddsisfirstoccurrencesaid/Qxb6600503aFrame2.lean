/-
  Opening a slice of strings that came in, as a list of just its elements.
-/
import Derived.Test.Qxb6600503aFrame
namespace Go.Proofs.Qxb6600503a
open Go.ChangeShapes Go.WideShapes Go.ChangeAt Go.RowKit

theorem open_names2 {H : Type} {enc : TypeId × Value → H} {W : World} {a0 : Option Addr} {len cap : Nat} {d0 : DataW H} {p : List MemPlace} {ts : List TypeId} {ds : List (DataW H)} {j : Nat}
    (hf : DataW.Trod enc Try.prog W 0 (fun _ => true) true 22 (.slice a0 len cap) d0 p)
    (hsz : (DataW.weightsEach Try.prog ts ds).all (· ≤ reachBytes) = true) (ht : ts[j]? = some 22) (hd : ds[j]? = some d0) :
    ∃ ns : List ByteArray, ns.length = len ∧ Strs W a0 len cap ns ∧ len * 16 ≤ 140737488351232 ∧ ∀ q ∈ ns, q.size ≤ maxLen := by
  obtain ⟨ss, hs, hm, hz⟩ := open_names hf hsz ht hd
  refine ⟨(List.range len).map fun k => ss.getD k ByteArray.empty, by simp, ⟨hs.nil, fun ad ha k hk => ?_⟩, hm, fun q hq => ?_⟩
  · rw [hs.cell ad ha k hk]
    simp [hk]
  · obtain ⟨k, hk, rfl⟩ := List.mem_map.1 hq
    exact hz k (by simpa using hk)

end Go.Proofs.Qxb6600503a
