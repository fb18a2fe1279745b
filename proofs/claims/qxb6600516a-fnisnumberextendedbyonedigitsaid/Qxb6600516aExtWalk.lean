/-
  FnIsNumberExtendedByOneDigit (function 5): the walk.
-/
import Derived.Test.Qxb6600516aNum
import Derived.Laws.BytesArg
namespace Go.Proofs.Qxb6600516a
open Go.RowKit

theorem conv_one (d : Int) (w : World) : (convert 28 9 (.slice (some ⟨w.heap.size, 0, none⟩) 1 1)).run Try.prog (w.alloc (.cells #[.int .u8 d] 5)) = .ok (.string (strOfNums [d])) (w.alloc (.cells #[.int .u8 d] 5)) :=
  run_convert_bytes_arg (P := Try.prog) (w.alloc (.cells #[.int .u8 d] 5)) 28 5 Try.underlying28 Try.underlying5 w.heap.size 0 1 1 [d] rfl (fun i hi => by
    obtain rfl : i = 0 := by omega
    simp) 9 Try.underlying9

theorem dg_of (d : Int) (h1 : 48 ≤ d) (h2 : d ≤ 57) : dg (UInt8.ofNat d.toNat) = true := by
  have e : (UInt8.ofNat d.toNat).toNat = d.toNat := by
    rw [UInt8.toNat_ofNat']
    omega
  exact dg_yes (by rw [e]; omega) (by rw [e]; omega)

theorem snoc_data (s : ByteArray) (d : Int) : (s ++ strOfNums [d]).data.toList = s.data.toList ++ [UInt8.ofNat d.toNat] := by
  simp [strOfNums]

set_option maxHeartbeats 1000000 in
set_option maxRecDepth 100000 in
theorem ext_in (s : ByteArray) (d : Int) (w : World) (hs : s.size ≤ 65536) (h1 : 48 ≤ d) (h2 : d ≤ 57) :
    Calls Try.prog 5 #[.string s, .int .u8 d] w fun e w' => e = .returned (.bool true) ∧ Below w.heap.size w w' := by
  have hmax : s.size ≤ maxLen := by unfold maxLen; omega
  have hz1 : (strOfNums [d]).size = 1 := strOfNums_size [d]
  have C11 := hid (bytes11 s d w hmax)
  have C9 := hid (fun w' => zzIsNumber9 s w' hmax)
  have C9t := hid (fun w' => zzIsNumber9 (s ++ strOfNums [d]) w' (by unfold maxLen; simp [hz1]; omega))
  have hconv := conv_one d w
  have hadd := fun w => run_string_add_sum (P := Try.prog) w s (strOfNums [d]) (by rw [hz1]; omega)
  have HS : Hid (isNum (s ++ strOfNums [d]).data.toList = (s.data.toList.isEmpty || (isNum s.data.toList && !(s.data.toList == [48])))) := by
    refine hid ?_
    rw [snoc_data]
    exact isNum_snoc _ _ (dg_of d h1 h2)
  have HB := hid ((Below.refl w.heap.size w).alloc (Nat.le_refl _) (.cells #[.int .u8 d] 5))
  clear hz1 hmax
  generalize strOfNums [d] = td at *
  have hl : s.toList = s.data.toList := ByteArray.toList_eq s
  cases he : s.toList.isEmpty
  · cases hn : isNum s.data.toList
    · have HR : Hid (isNum (s ++ td).data.toList = false) := by
        refine hid ?_
        rw [HS.out, hn, ← hl, he]
        rfl
      have HN := hid hn
      clear hn hl HS
      go_enter Try.func5, Try.ntmps5
      go_wp2_with (go_at_call 11; refine C11.out.mono ?_; rintro e w1 ⟨⟨b, rfl⟩, hw⟩; rw [hw]; clear hw w1)
      all_goals try (go_ret; exact ⟨rfl, Below.refl _ _⟩)
      refine (C9.out _).mono ?_
      rintro e w1 ⟨rfl, hw⟩
      rw [hw, HN.out]
      clear hw w1
      go_wp2_with fail
      refine (C9t.out _).mono ?_
      rintro e w1 ⟨rfl, hw⟩
      rw [hw, HR.out]
      clear hw w1
      go_wp2
      go_ret
      exact ⟨rfl, HB.out⟩
    · have HR : Hid (isNum (s ++ td).data.toList = !(s.toList == [48])) := by
        refine hid ?_
        rw [HS.out, hn, ← hl, he]
        rfl
      have HN := hid hn
      clear hn hl HS
      go_enter Try.func5, Try.ntmps5
      go_wp2_with (go_at_call 11; refine C11.out.mono ?_; rintro e w1 ⟨⟨b, rfl⟩, hw⟩; rw [hw]; clear hw w1)
      all_goals try (go_ret; exact ⟨rfl, Below.refl _ _⟩)
      refine (C9.out _).mono ?_
      rintro e w1 ⟨rfl, hw⟩
      rw [hw, HN.out]
      clear hw w1
      go_wp2_with fail
      refine (C9t.out _).mono ?_
      rintro e w1 ⟨rfl, hw⟩
      rw [hw, HR.out]
      clear hw w1
      go_wp2
      go_ret
      exact ⟨ret_bool (by simp), HB.out⟩
  · have HR : Hid (isNum (s ++ td).data.toList = true) := by
      refine hid ?_
      rw [HS.out, ← hl, he]
      rfl
    clear hl HS
    go_enter Try.func5, Try.ntmps5
    go_wp2_with (go_at_call 11; refine C11.out.mono ?_; rintro e w1 ⟨⟨b, rfl⟩, hw⟩; rw [hw]; clear hw w1)
    all_goals try (go_ret; exact ⟨rfl, Below.refl _ _⟩)
    refine (C9t.out _).mono ?_
    rintro e w1 ⟨rfl, hw⟩
    rw [hw, HR.out]
    clear hw w1
    go_wp2
    go_ret
    exact ⟨rfl, HB.out⟩

set_option maxHeartbeats 1000000 in
set_option maxRecDepth 100000 in
theorem ext_out (s : ByteArray) (d : Int) (w : World) (hs : s.size ≤ maxLen) (hno : ¬ (s.size ≤ 65536 ∧ 48 ≤ d ∧ d ≤ 57)) :
    Calls Try.prog 5 #[.string s, .int .u8 d] w fun e w' => e = .returned (.bool true) ∧ Below w.heap.size w w' := by
  have C11 := hid (bytes11 s d w hs)
  unfold maxLen at hs
  have HN := hid hno
  clear hno
  go_enter Try.func5, Try.ntmps5
  go_wp2_with (go_at_call 11; refine C11.out.mono ?_; rintro e w1 ⟨⟨b, rfl⟩, hw⟩; rw [hw]; clear hw w1)
  all_goals try (go_ret; exact ⟨rfl, Below.refl _ _⟩)
  all_goals (exfalso; apply HN.out; omega)

end Go.Proofs.Qxb6600516a
