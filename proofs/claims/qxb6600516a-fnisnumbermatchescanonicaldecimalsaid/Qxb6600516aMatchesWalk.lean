/-
  FnIsNumberMatchesCanonicalDecimal (function 3): the walk.
-/
import Derived.Test.Qxb6600516aNum
namespace Go.Proofs.Qxb6600516a
open Go.RowKit

set_option maxHeartbeats 1000000 in
set_option maxRecDepth 100000 in
theorem matches_walk (s : ByteArray) (w : World) (hs : s.size ≤ maxLen) :
    Calls Try.prog 3 #[.string s] w fun e w' => e = .returned (.bool true) ∧ w' = w := by
  have C6 := hid (bytes6 s w hs)
  have C7 := hid (allDigits7 s w hs)
  have C8 := hid (canonical8 s w hs)
  have C9 := hid (zzIsNumber9 s w hs)
  have HC := hid (isNum_canon s.data.toList)
  unfold maxLen at hs
  by_cases h0 : s.size < 1
  · have HR : Hid (isNum s.data.toList = false) := by rw [empty_list s (by omega)]; exact hid rfl
    go_enter Try.func3, Try.ntmps3
    go_wp2_with (first
      | (go_at_call 6; refine C6.out.mono ?_; rintro e w1 ⟨⟨b, rfl⟩, hw⟩; rw [hw]; clear hw w1)
      | (go_at_call 9; refine C9.out.mono ?_; rintro e w1 ⟨rfl, hw⟩; rw [hw]; clear hw w1))
    all_goals (go_ret; first | exact ⟨rfl, rfl⟩ | exact ⟨ret_bool (by rw [HR.out]; rfl), rfl⟩)
  · cases hd : allDg s
    · have HR : Hid (isNum s.data.toList = false) := by
        refine hid ?_
        rw [HC.out, show s.data.toList.all dg = false from hd]
        simp
      go_enter Try.func3, Try.ntmps3
      go_wp2_with (first
        | (go_at_call 6; refine C6.out.mono ?_; rintro e w1 ⟨⟨b, rfl⟩, hw⟩; rw [hw]; clear hw w1)
        | (go_at_call 7; refine C7.out.mono ?_; rintro e w1 ⟨rfl, hw⟩; rw [hw]; clear hw w1)
        | (go_at_call 9; refine C9.out.mono ?_; rintro e w1 ⟨rfl, hw⟩; rw [hw]; clear hw w1))
      all_goals (go_ret; first | exact ⟨rfl, rfl⟩ | exact ⟨ret_bool (by rw [HR.out]; rfl), rfl⟩)
    · have HR : Hid (∀ r : ByteArray, r.data.toList = canonL s.data.toList → (isNum s.data.toList == (r.toList == s.toList)) = true) := by
        intro r hr
        rw [HC.out, show s.data.toList.all dg = true from hd, ByteArray.toList_eq, ByteArray.toList_eq, hr]
        have : decide (0 < s.data.toList.length) = true := by rw [data_len]; simp; omega
        rw [this]
        simp
      go_enter Try.func3, Try.ntmps3
      go_wp2_with (first
        | (go_at_call 6; refine C6.out.mono ?_; rintro e w1 ⟨⟨b, rfl⟩, hw⟩; rw [hw]; clear hw w1)
        | (go_at_call 7; refine C7.out.mono ?_; rintro e w1 ⟨rfl, hw⟩; rw [hw]; clear hw w1)
        | (go_at_call 8; refine C8.out.mono ?_; rintro e w1 ⟨⟨r, rfl, hr⟩, hw⟩; rw [hw]; have HRR := hid (HR.out r hr); clear hw w1 hr)
        | (go_at_call 9; refine C9.out.mono ?_; rintro e w1 ⟨rfl, hw⟩; rw [hw]; clear hw w1))
      all_goals (go_ret; first | exact ⟨rfl, rfl⟩ | exact ⟨ret_bool HRR.out, rfl⟩)

end Go.Proofs.Qxb6600516a
