/-
  Contracts of the readers that lay a bound on the arguments' bytes (functions 19, 20, 6, 7): each returns SOME bool and turns nothing.
-/
import Derived.Test.Qxb6600503aRows
import Derived.WalkKit
import Derived.WalkSpells
import Derived.WalkLawsBesides
namespace Go.Proofs.Qxb6600503a
open Go.RowKit

/-- The call returned one bool. -/
def SomeBool (e : Ending) : Prop := ∃ b, e = .returned (.bool b)
theorem someBool (b : Bool) : SomeBool (.returned (.bool b)) := ⟨b, rfl⟩

/-- The slice of strings at address a holds the strings ss. -/
structure Strs (w : World) (a : Option Addr) (len cap : Nat) (ss : List ByteArray) : Prop where
  nil : a = none → len = 0 ∧ cap = 0
  cell : ∀ ad, a = some ad → ∀ k, k < len → w.cell? (ad.add k) = some (.string (ss.getD k ByteArray.empty))

set_option maxHeartbeats 400000 in
set_option maxRecDepth 100000 in
theorem bytes19 (a : Option Addr) (len cap : Nat) (ss : List ByteArray) (w : World) (hm : len ≤ 281474976710656) (hs : Strs w a len cap ss) :
    Calls Try.prog 19 #[.slice a len cap] w fun e w' => SomeBool e ∧ w' = w := by
  obtain ⟨hn, hc0⟩ := hs
  rcases a with _ | ad
  · obtain ⟨rfl, rfl⟩ := hn rfl
    clear hc0 hn hm
    go_enter Try.func19, Try.ntmps19
    go_wp2
    refine wp_loop_rounds 1 ?_
    rw [rounds_succ]
    go_wp2
    go_ret
    exact ⟨someBool _, rfl⟩
  · have hc := hc0 ad rfl
    clear hc0 hn
    go_enter Try.func19, Try.ntmps19
    go_wp2
    all_goals try (go_ret; exact ⟨someBool _, rfl⟩)
    go_loop [3, 4] (fun t i => ∃ (k : Nat) (x : Int), k ≤ len ∧ i = .int .i64 k ∧ t = .int .i64 x) (fun _ i => len - (intOf i).toNat)
    case atStart => exact ⟨0, _, Nat.zero_le _, rfl, rfl⟩
    case round =>
      obtain ⟨k, x, hk, rfl, rfl⟩ := hrel
      have hcell : k < len → w.cell? (ad.add k) = some (.string (ss.getD k ByteArray.empty)) := fun h => hc k h
      go_wp2
      all_goals first
        | (go_ret; exact ⟨someBool _, rfl⟩)
        | (go_round
           case rel => exact ⟨k + 1, _, by omega, by go_num, rfl⟩
           case measure => simp [intOf]; omega)

set_option maxHeartbeats 1000000 in
set_option maxRecDepth 100000 in
theorem over7 (a b : Option Addr) (la ca lb cb : Nat) (sa sb : List ByteArray) (w : World) (hma : la ≤ 281474976710656) (hmb : lb ≤ 281474976710656) (ha : Strs w a la ca sa) (hb : Strs w b lb cb sb) :
    Calls Try.prog 7 #[.slice a la ca, .slice b lb cb] w fun e w' => SomeBool e ∧ w' = w := by
  obtain ⟨hna, hca⟩ := ha
  obtain ⟨hnb, hcb⟩ := hb
  have hla : a = none → la < 1 := fun h => by have := (hna h).1; omega
  have hlb : b = none → lb < 1 := fun h => by have := (hnb h).1; omega
  clear hna hnb
  rcases a with _ | ad <;> rcases b with _ | bd
  all_goals
    first | replace hla := hla rfl | clear hla
    first | replace hlb := hlb rfl | clear hlb
    first | replace hca := hca ad rfl | clear hca
    first | replace hcb := hcb bd rfl | clear hcb
    go_enter Try.func7, Try.ntmps7
    go_wp2
    all_goals try (go_ret; exact ⟨someBool _, rfl⟩)
    go_loop [5, 6] (fun t i => ∃ (k : Nat) (x : Int), k ≤ la ∧ i = .int .i64 k ∧ t = .int .i64 x) (fun _ i => la - (intOf i).toNat)
    case atStart => exact ⟨0, _, Nat.zero_le _, rfl, rfl⟩
    case round =>
      obtain ⟨k, x, hk, rfl, rfl⟩ := hrel
      try have hcell : k < la → w.cell? (ad.add k) = some (.string (sa.getD k ByteArray.empty)) := fun h => hca k h
      go_wp2
      all_goals try (go_ret; exact ⟨someBool _, rfl⟩)
      all_goals first
        | (go_round
           case rel => exact ⟨k + 1, _, by omega, by go_num, rfl⟩
           case measure => simp [intOf]; omega)
        | (go_loop [5, 7] (fun t i => ∃ (k : Nat) (x : Int), k ≤ lb ∧ i = .int .i64 k ∧ t = .int .i64 x) (fun _ i => lb - (intOf i).toNat)
           case atStart => exact ⟨0, _, Nat.zero_le _, rfl, rfl⟩
           case round =>
             obtain ⟨k, x, hk, rfl, rfl⟩ := hrel
             try have hcell : k < lb → w.cell? (bd.add k) = some (.string (sb.getD k ByteArray.empty)) := fun h => hcb k h
             go_wp2
             all_goals try (go_ret; exact ⟨someBool _, rfl⟩)
             all_goals
               go_round
               case rel => exact ⟨k + 1, _, by omega, by go_num, rfl⟩
               case measure => simp [intOf]; omega)

set_option maxHeartbeats 1000000 in
set_option maxRecDepth 100000 in
theorem bytes6 (a b : Option Addr) (la ca lb cb : Nat) (sa sb : List ByteArray) (w : World) (hma : la ≤ 281474976710656) (hmb : lb ≤ 281474976710656) (ha : Strs w a la ca sa) (hb : Strs w b lb cb sb) :
    Calls Try.prog 6 #[.slice a la ca, .slice b lb cb] w fun e w' => SomeBool e ∧ w' = w := by
  obtain ⟨hna, hca⟩ := ha
  obtain ⟨hnb, hcb⟩ := hb
  have hla : a = none → la < 1 := fun h => by have := (hna h).1; omega
  have hlb : b = none → lb < 1 := fun h => by have := (hnb h).1; omega
  clear hna hnb
  rcases a with _ | ad <;> rcases b with _ | bd
  all_goals
    first | replace hla := hla rfl | clear hla
    first | replace hlb := hlb rfl | clear hlb
    first | replace hca := hca ad rfl | clear hca
    first | replace hcb := hcb bd rfl | clear hcb
    go_enter Try.func6, Try.ntmps6
    go_wp2
    all_goals try (go_ret; exact ⟨someBool _, rfl⟩)
    go_loop [5, 6] (fun t i => ∃ (k : Nat) (x : Int), k ≤ la ∧ i = .int .i64 k ∧ t = .int .i64 x) (fun _ i => la - (intOf i).toNat)
    case atStart => exact ⟨0, _, Nat.zero_le _, rfl, rfl⟩
    case round =>
      obtain ⟨k, x, hk, rfl, rfl⟩ := hrel
      try have hcell : k < la → w.cell? (ad.add k) = some (.string (sa.getD k ByteArray.empty)) := fun h => hca k h
      go_wp2
      all_goals try (go_ret; exact ⟨someBool _, rfl⟩)
      all_goals first
        | (go_round
           case rel => exact ⟨k + 1, _, by omega, by go_num, rfl⟩
           case measure => simp [intOf]; omega)
        | (go_loop [5, 7] (fun t i => ∃ (k : Nat) (x : Int), k ≤ lb ∧ i = .int .i64 k ∧ t = .int .i64 x) (fun _ i => lb - (intOf i).toNat)
           case atStart => exact ⟨0, _, Nat.zero_le _, rfl, rfl⟩
           case round =>
             obtain ⟨k, x, hk, rfl, rfl⟩ := hrel
             try have hcell : k < lb → w.cell? (bd.add k) = some (.string (sb.getD k ByteArray.empty)) := fun h => hcb k h
             go_wp2
             all_goals try (go_ret; exact ⟨someBool _, rfl⟩)
             all_goals
               go_round
               case rel => exact ⟨k + 1, _, by omega, by go_num, rfl⟩
               case measure => simp [intOf]; omega)

set_option maxHeartbeats 1000000 in
set_option maxRecDepth 100000 in
theorem bytes20 (a b : Option Addr) (la ca lb cb : Nat) (sa sb : List ByteArray) (w : World) (hma : la ≤ 281474976710656) (hmb : lb ≤ 281474976710656) (ha : Strs w a la ca sa) (hb : Strs w b lb cb sb) :
    Calls Try.prog 20 #[.slice a la ca, .slice b lb cb] w fun e w' => SomeBool e ∧ w' = w := by
  obtain ⟨hna, hca⟩ := ha
  obtain ⟨hnb, hcb⟩ := hb
  have hla : a = none → la < 1 := fun h => by have := (hna h).1; omega
  have hlb : b = none → lb < 1 := fun h => by have := (hnb h).1; omega
  clear hna hnb
  rcases a with _ | ad <;> rcases b with _ | bd
  all_goals
    first | replace hla := hla rfl | clear hla
    first | replace hlb := hlb rfl | clear hlb
    first | replace hca := hca ad rfl | clear hca
    first | replace hcb := hcb bd rfl | clear hcb
    go_enter Try.func20, Try.ntmps20
    go_wp2
    all_goals try (go_ret; exact ⟨someBool _, rfl⟩)
    go_loop [5, 6] (fun t i => ∃ (k : Nat) (x : Int), k ≤ la ∧ i = .int .i64 k ∧ t = .int .i64 x) (fun _ i => la - (intOf i).toNat)
    case atStart => exact ⟨0, _, Nat.zero_le _, rfl, rfl⟩
    case round =>
      obtain ⟨k, x, hk, rfl, rfl⟩ := hrel
      try have hcell : k < la → w.cell? (ad.add k) = some (.string (sa.getD k ByteArray.empty)) := fun h => hca k h
      go_wp2
      all_goals try (go_ret; exact ⟨someBool _, rfl⟩)
      all_goals first
        | (go_round
           case rel => exact ⟨k + 1, _, by omega, by go_num, rfl⟩
           case measure => simp [intOf]; omega)
        | (go_loop [5, 7] (fun t i => ∃ (k : Nat) (x : Int), k ≤ lb ∧ i = .int .i64 k ∧ t = .int .i64 x) (fun _ i => lb - (intOf i).toNat)
           case atStart => exact ⟨0, _, Nat.zero_le _, rfl, rfl⟩
           case round =>
             obtain ⟨k, x, hk, rfl, rfl⟩ := hrel
             try have hcell : k < lb → w.cell? (bd.add k) = some (.string (sb.getD k ByteArray.empty)) := fun h => hcb k h
             go_wp2
             all_goals try (go_ret; exact ⟨someBool _, rfl⟩)
             all_goals
               go_round
               case rel => exact ⟨k + 1, _, by omega, by go_num, rfl⟩
               case measure => simp [intOf]; omega)

end Go.Proofs.Qxb6600503a
