/-
  FnCardNextKeepsEarlyLettersWhenScriptGrows (function 4): the walk.
-/
import Derived.Test.Qxb6600504aNext
namespace Go.Proofs.Qxb6600504a
open Go.RowKit

theorem card6_low (s : ByteArray) (c : Nat) (w : World) (hs : s.size ≤ 1048576) (hc : c < s.size) :
    Calls Try.prog 6 #[.string s, .int .i64 c] w fun e w' => e = .returned (.tuple #[.int .u8 (at_ s c), .int .i64 ((c : Int) + 1)]) ∧ Below w.heap.size w w' := by
  have := card6 s c w hs (by omega) (by omega)
  rwa [Nat.min_eq_left (by omega)] at this

theorem at_append (s t : ByteArray) (c : Nat) (h : c < s.size) : at_ (s ++ t) c = at_ s c := by
  unfold at_
  have e : (s ++ t).data.toList = s.data.toList ++ t.data.toList := by simp
  rw [e, List.getD_eq_getElem?_getD, List.getElem?_append_left (by simpa using h), List.getD_eq_getElem?_getD]

set_option maxHeartbeats 1000000 in
set_option maxRecDepth 100000 in
theorem grows_in (s t : ByteArray) (c : Nat) (w : World) (h1 : s.size ≤ 1048576) (h2 : t.size ≤ 1048576) (h3 : s.size + t.size ≤ 1048576) (hc : c < s.size) :
    Calls Try.prog 4 #[.string s, .string t, .int .i64 c] w fun e w' => e = .returned (.bool true) ∧ Below w.heap.size w w' := by
  have C7 := hid (bytes7 s t c w (by unfold maxLen; omega) (by unfold maxLen; omega))
  have C6 := hid (fun w' => card6_low s c w' h1 hc)
  have C6b : Hid (∀ w' : World, Calls Try.prog 6 #[.string (s ++ t), .int .i64 c] w' fun e w'' => e = .returned (.tuple #[.int .u8 (at_ s c), .int .i64 ((c : Int) + 1)]) ∧ Below w'.heap.size w' w'') := by
    intro w'
    have := card6_low (s ++ t) c w' (by simp; omega) (by simp; omega)
    rwa [at_append s t c hc] at this
  have hat := at_eq s c hc
  have h0 : (0 : Int) ≤ (c : Int) := by omega
  have hadd := fun w => run_string_add_sum (P := Try.prog) w s t (by omega)
  go_enter Try.func4, Try.ntmps4
  go_wp2_with (go_at_call 7; refine C7.out.mono ?_; rintro e w1 ⟨⟨b, rfl⟩, hw⟩; rw [hw]; clear hw w1)
  all_goals try (go_ret; exact ⟨rfl, Below.refl _ _⟩)
  refine (C6.out _).mono ?_
  rintro e w1 ⟨rfl, hB1⟩
  go_wp2_with fail
  refine (C6b.out _).mono ?_
  rintro e w2 ⟨rfl, hB2⟩
  have HE := hid (hB1.trans (hB2.mono hB1.size))
  clear hB1 hB2 C6 C6b C7
  go_wp2
  go_ret
  exact ⟨rfl, HE.out⟩

set_option maxHeartbeats 1000000 in
set_option maxRecDepth 100000 in
theorem grows_out (s t : ByteArray) (n : Int) (w : World) (hs : s.size ≤ maxLen) (ht : t.size ≤ maxLen) (hno : ¬ (s.size ≤ 1048576 ∧ t.size ≤ 1048576 ∧ s.size + t.size ≤ 1048576 ∧ 0 ≤ n ∧ n < s.size)) :
    Calls Try.prog 4 #[.string s, .string t, .int .i64 n] w fun e w' => e = .returned (.bool true) ∧ Below w.heap.size w w' := by
  have C7 := hid (bytes7 s t n w hs ht)
  unfold maxLen at hs ht
  have HN := hid hno
  clear hno
  go_enter Try.func4, Try.ntmps4
  go_wp2_with (go_at_call 7; refine C7.out.mono ?_; rintro e w1 ⟨⟨b, rfl⟩, hw⟩; rw [hw]; clear hw w1)
  all_goals try (go_ret; exact ⟨rfl, Below.refl _ _⟩)
  all_goals (exfalso; apply HN.out; omega)

end Go.Proofs.Qxb6600504a
