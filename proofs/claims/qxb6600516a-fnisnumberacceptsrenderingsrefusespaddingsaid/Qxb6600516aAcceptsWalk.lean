/-
  FnIsNumberAcceptsRenderingsRefusesPadding (function 4): the walk.
-/
import Derived.Test.Qxb6600516aUtoa
namespace Go.Proofs.Qxb6600516a
open Go.RowKit

theorem cons_data (c : UInt8) (t : ByteArray) : ((⟨#[c]⟩ : ByteArray) ++ t).data.toList = c :: t.data.toList := by simp

theorem cons_size (c : UInt8) (t : ByteArray) : ((⟨#[c]⟩ : ByteArray) ++ t).size = 1 + t.size := by simp; rfl

set_option maxHeartbeats 1000000 in
set_option maxRecDepth 100000 in
theorem accepts_walk (n : Nat) (w : World) (hn : n < 18446744073709551616) :
    Calls Try.prog 4 #[.int .u64 n] w fun e w' => e = .returned (.bool true) ∧ Below w.heap.size w w' := by
  have C10 := hid (utoa_any n w hn)
  clear hn
  go_enter Try.func4, Try.ntmps4
  go_wp2_with fail
  refine C10.out.mono ?_
  rintro e w1 ⟨⟨t, rfl, ht, hz⟩, hB⟩
  have hmx : ∀ c : UInt8, ((⟨#[c]⟩ : ByteArray) ++ t).size ≤ maxLen := fun c => by rw [cons_size]; unfold maxLen; omega
  obtain ⟨p1, p2, p3⟩ := isNum_pad t.data.toList ht
  have C0 := hid (zzIsNumber9 t w1 (by unfold maxLen; omega))
  have C1 := hid (zzIsNumber9 ((⟨#[48]⟩ : ByteArray) ++ t) w1 (hmx 48))
  have C2 := hid (zzIsNumber9 ((⟨#[45]⟩ : ByteArray) ++ t) w1 (hmx 45))
  have C3 := hid (zzIsNumber9 ((⟨#[43]⟩ : ByteArray) ++ t) w1 (hmx 43))
  rw [ht] at C0
  rw [cons_data, p1] at C1
  rw [cons_data, p2] at C2
  rw [cons_data, p3] at C3
  have hadd := fun (c : UInt8) (w : World) => run_string_add_sum (P := Try.prog) w (⟨#[c]⟩ : ByteArray) t (by have : (⟨#[c]⟩ : ByteArray).size = 1 := rfl; rw [this]; omega)
  have HB := hid hB
  clear hB ht p1 p2 p3 hmx C10
  go_wp2_with fail
  refine C0.out.mono ?_
  rintro e wa ⟨rfl, hw⟩
  rw [hw]
  clear hw wa
  go_wp2_with fail
  refine C1.out.mono ?_
  rintro e wa ⟨rfl, hw⟩
  rw [hw]
  clear hw wa
  go_wp2_with fail
  refine C2.out.mono ?_
  rintro e wa ⟨rfl, hw⟩
  rw [hw]
  clear hw wa
  go_wp2_with fail
  refine C3.out.mono ?_
  rintro e wa ⟨rfl, hw⟩
  rw [hw]
  clear hw wa
  go_wp2
  go_ret
  exact ⟨rfl, HB.out⟩

end Go.Proofs.Qxb6600516a
