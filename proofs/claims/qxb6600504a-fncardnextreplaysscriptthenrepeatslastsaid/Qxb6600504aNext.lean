/-
  (*card).next (function 8), ZZCardNext (6), the two readers of a bound (5, 7).
-/
import Derived.Test.Qxb6600504aRows
import Derived.WalkKit
import Derived.WalkSpells
import Derived.WalkLawsBesides
import Derived.Deep.QuietTactic
import Derived.BigQuiet
namespace Go.Proofs.Qxb6600504a
open Go.RowKit

theorem hid {p : Prop} (h : p) : Hid p := h

/-- The call returned one bool. -/
def SomeBool (e : Ending) : Prop := ∃ b, e = .returned (.bool b)
theorem someBool (b : Bool) : SomeBool (.returned (.bool b)) := ⟨b, rfl⟩

/-- The byte at place k. -/
def at_ (s : ByteArray) (k : Nat) : Int := ((s.data.toList.getD k 0).toNat : Int)
theorem at_eq (s : ByteArray) (k : Nat) (h : k < s.size) : ((s[k]'h).toNat : Int) = at_ s k := by
  unfold at_
  have : s.data.toList.getD k 0 = s[k] := by
    rw [List.getD_eq_getElem?_getD, List.getElem?_eq_getElem (by simpa using h)]
    rfl
  rw [this]

theorem ret_int {k : IntKind} {a b : Int} (h : a = b) : Ending.returned (.int k a) = .returned (.int k b) := by rw [h]

/-- Behind 'next': the count is one more; below block B nothing has turned. -/
structure After (B : Nat) (s cu : ByteArray) (c : Nat) (w w' : World) : Prop where
  block : w'.heap[B]? = some (.cells #[.string cu, .string s, .int .i64 ((c : Int) + 1)] 29 (0, 0))
  below : Below B w w'

theorem after_mk {B : Nat} {s cu : ByteArray} {c : Nat} {w : World} (n : Nat) (hb : w.heap[B]? = some (.cells #[.string cu, .string s, .int .i64 c] 29 (0, 0))) : After B s cu c w ((w.setCell ⟨B, 2, none⟩ (.int .i64 ((c : Int) + 1))).drewN n) :=
  ⟨(heap_setCell_same w B 2 _ 29 (.int .i64 ((c : Int) + 1)) hb).trans rfl, below_drewN ((Below.refl B w).setCell (p := ⟨B, 2, none⟩) (Nat.le_refl _) _) n⟩

set_option maxHeartbeats 400000 in
set_option maxRecDepth 100000 in
theorem next8 (B : Nat) (s cu : ByteArray) (c : Nat) (w : World) (hs : s.size ≤ 1048576) (h0 : 0 < s.size) (hc : c ≤ 1048576) (hb : w.heap[B]? = some (.cells #[.string cu, .string s, .int .i64 c] 29 (0, 0))) :
    Calls Try.prog 8 #[.pointer (some ⟨B, 0, none⟩)] w fun e w' => e = .returned (.int .u8 (at_ s (min c (s.size - 1)))) ∧ After B s cu c w w' := by
  have c1 : w.cell? ⟨B, 1, none⟩ = some (.string s) := by simp [World.cell?, hb]
  have c2 : w.cell? ⟨B, 2, none⟩ = some (.int .i64 c) := by simp [World.cell?, hb]
  have f2 : w.frozen? ⟨B, 2, none⟩ = false := by simp [World.frozen?, hb]
  have HA := hid (fun n => after_mk n hb)
  clear hb
  by_cases hlt : c < s.size
  · have e1 : Hid (min c (s.size - 1) = c) := by show min c (s.size - 1) = c; omega
    go_enter Try.func8, Try.ntmps8
    go_wp2
    go_quiet (fail)
    go_wp2
    go_ret
    exact ⟨ret_int (by rw [e1.out]; exact at_eq s c hlt), HA.out _⟩
  · obtain ⟨m, hm⟩ : ∃ m, s.size = m + 1 := ⟨s.size - 1, by omega⟩
    have e1 : Hid (min c (s.size - 1) = m) := by show min c (s.size - 1) = m; omega
    have hsub : ((s.size : Int) - 1) = (m : Int) := by omega
    have hmin : ¬ (c : Int) < (m : Int) := by omega
    have hml : m < s.size := by omega
    clear hm
    go_enter Try.func8, Try.ntmps8
    go_wp2
    go_quiet (fail)
    go_wp2
    go_ret
    exact ⟨ret_int (by rw [e1.out]; exact at_eq s m hml), HA.out _⟩

set_option maxHeartbeats 400000 in
set_option maxRecDepth 100000 in
theorem card6 (s : ByteArray) (c : Nat) (w : World) (hs : s.size ≤ 1048576) (h0 : 0 < s.size) (hc : c ≤ 1048576) :
    Calls Try.prog 6 #[.string s, .int .i64 c] w fun e w' => e = .returned (.tuple #[.int .u8 (at_ s (min c (s.size - 1))), .int .i64 ((c : Int) + 1)]) ∧ Below w.heap.size w w' := by
  have C8 := hid (fun w' hb => next8 w.heap.size s ByteArray.empty c w' hs h0 hc hb)
  clear hs h0 hc
  go_enter Try.func6, Try.ntmps6
  go_wp2_with (go_at_call 8; refine (C8.out _ (heap_alloc_new _ _)).mono ?_; rintro e w1 ⟨rfl, hA⟩)
  have d2 : w1.cell? ⟨w.heap.size, 2, none⟩ = some (.int .i64 ((c : Int) + 1)) := by simp [World.cell?, hA.block]
  have HB := hid (((Below.refl w.heap.size w).alloc (Nat.le_refl _) _).trans hA.below)
  clear hA C8
  go_quiet (fail)
  go_wp2
  go_ret2
  exact ⟨rfl, below_drewN HB.out _⟩

set_option maxRecDepth 100000 in
theorem bytes5 (s : ByteArray) (n : Int) (w : World) (hs : s.size ≤ maxLen) : Calls Try.prog 5 #[.string s, .int .i64 n] w fun e w' => SomeBool e ∧ w' = w := by
  unfold maxLen at hs
  go_enter Try.func5, Try.ntmps5
  go_wp2
  all_goals (go_ret; exact ⟨someBool _, rfl⟩)

set_option maxRecDepth 100000 in
theorem bytes7 (s t : ByteArray) (n : Int) (w : World) (hs : s.size ≤ maxLen) (ht : t.size ≤ maxLen) : Calls Try.prog 7 #[.string s, .string t, .int .i64 n] w fun e w' => SomeBool e ∧ w' = w := by
  unfold maxLen at hs ht
  go_enter Try.func7, Try.ntmps7
  go_wp2
  all_goals (go_ret; exact ⟨someBool _, rfl⟩)

end Go.Proofs.Qxb6600504a
