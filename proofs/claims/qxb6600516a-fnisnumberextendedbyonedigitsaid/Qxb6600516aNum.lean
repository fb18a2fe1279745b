/-
  isNumber (function 13), ZZisNumber (9), zzB1IsDigit (12), zzB1AllDigits (7), zzB1Canonical (8), the readers of a bound (6, 11).
-/
import Derived.Test.Qxb6600516aPlain
import Derived.WalkKit
import Derived.WalkSpells
import Derived.WalkLawsBesides
import Derived.Lib.IndexBytes
namespace Go.Proofs.Qxb6600516a
open Go.RowKit

theorem hid {p : Prop} (h : p) : Hid p := h

/-- The call returned one bool. -/
def SomeBool (e : Ending) : Prop := ∃ b, e = .returned (.bool b)
theorem someBool (b : Bool) : SomeBool (.returned (.bool b)) := ⟨b, rfl⟩
theorem ret_bool {a b : Bool} (h : a = b) : Ending.returned (.bool a) = .returned (.bool b) := by rw [h]

theorem data_at (s : ByteArray) (k : Nat) (h : k < s.size) : s.data.toList[k]? = some (s[k]'h) := by
  rw [List.getElem?_eq_getElem (by simpa using h)]
  rfl
theorem data_len (s : ByteArray) : s.data.toList.length = s.size := rfl

theorem dg_yes {c : UInt8} (h1 : (48 : Int) ≤ (c.toNat : Int)) (h2 : (c.toNat : Int) ≤ 57) : dg c = true := by
  unfold dg
  have a : 48 ≤ c.toNat := by omega
  have b : c.toNat ≤ 57 := by omega
  simp [a, b]
theorem dg_no {c : UInt8} (h : ¬ ((48 : Int) ≤ (c.toNat : Int) ∧ (c.toNat : Int) ≤ 57)) : dg c = false := by
  unfold dg
  by_cases a : 48 ≤ c.toNat
  · have b : ¬ c.toNat ≤ 57 := by omega
    simp [b]
  · simp [a]
theorem eq48 {c : UInt8} (h : (c.toNat : Int) = 48) : c = 48 := UInt8.toNat_inj.1 (by show c.toNat = 48; omega)

theorem empty_list (s : ByteArray) (h : s.size = 0) : s.data.toList = [] := List.eq_nil_of_length_eq_zero h

set_option maxHeartbeats 1000000 in
set_option maxRecDepth 100000 in
theorem isNumber13 (s : ByteArray) (w : World) (hs : s.size ≤ maxLen) :
    Calls Try.prog 13 #[.string s] w fun e w' => e = .returned (.bool (isNum s.data.toList)) ∧ w' = w := by
  unfold maxLen at hs
  by_cases h0 : s.size = 0
  · have he : s.toList.isEmpty = true := by rw [List.isEmpty_iff, ByteArray.toList_eq]; exact empty_list s h0
    have HR : Hid (isNum s.data.toList = false) := by rw [empty_list s h0]; exact hid rfl
    clear h0
    go_enter Try.func13, Try.ntmps13
    go_wp2
    go_ret
    exact ⟨ret_bool HR.out.symm, rfl⟩
  · have hp : 0 < s.size := by omega
    have he : s.toList.isEmpty = false := by
      cases hh : s.toList.isEmpty
      · rfl
      · rw [List.isEmpty_iff, ByteArray.toList_eq] at hh
        have h1 := data_len s
        rw [hh] at h1
        exact absurd h1.symm h0
    clear h0
    by_cases hz : ((s[0]'hp).toNat : Int) = 48 ∧ 1 < s.size
    · obtain ⟨hz1, hz2⟩ := hz
      have HR : Hid (isNum s.data.toList = false) := isNum_zero (by rw [data_at s 0 hp, eq48 hz1]) (by rw [data_len]; exact hz2)
      have hb : (((s[0]'hp).toNat : Int) == 48) = true := by rw [hz1]; rfl
      clear hz1
      go_enter Try.func13, Try.ntmps13
      go_wp2
      go_ret
      exact ⟨ret_bool HR.out.symm, rfl⟩
    · have H1 : Hid (s.data.toList[0]? = some 48 → s.data.toList.length ≤ 1) := by
        intro h
        rw [data_at s 0 hp] at h
        have e : s[0]'hp = 48 := by simpa using h
        rw [data_len]
        by_cases h1 : 1 < s.size
        · exact absurd ⟨by rw [e]; rfl, h1⟩ hz
        · omega
      have hcase : ((((s[0]'hp).toNat : Int) == 48) = false) ∨ ((((s[0]'hp).toNat : Int) == 48) = true ∧ s.size < 2) := by
        cases hh : (((s[0]'hp).toNat : Int) == 48)
        · exact Or.inl rfl
        · refine Or.inr ⟨rfl, ?_⟩
          by_cases h1 : 1 < s.size
          · exact absurd ⟨by simpa using hh, h1⟩ hz
          · omega
      clear hz
      rcases hcase with hb | ⟨hb, hsz⟩
      all_goals
        go_enter Try.func13, Try.ntmps13
        go_wp2
        go_loop [3] (fun i => ∃ k : Nat, k ≤ s.size ∧ i = .int .i64 k ∧ ∀ (j : Nat) x, j < k → s.data.toList[j]? = some x → dg x = true) (fun i => s.size - (intOf i).toNat)
        case atStart => exact ⟨0, Nat.zero_le _, rfl, fun j x hj => by omega⟩
        case round =>
          obtain ⟨k, hk, rfl, hall⟩ := hrel
          have HA := hid hall
          clear hall
          by_cases hlt : k < s.size
          · have hat := data_at s k hlt
            have HT := hid hat
            clear hat
            by_cases hd : (48 : Int) ≤ ((s[k]'hlt).toNat : Int) ∧ ((s[k]'hlt).toNat : Int) ≤ 57
            · obtain ⟨hd1, hd2⟩ := hd
              go_wp2
              go_round
              case rel =>
                refine ⟨k + 1, by omega, by go_num, fun j x hj hx => ?_⟩
                by_cases e : j = k
                · subst e
                  rw [HT.out] at hx
                  cases hx
                  exact dg_yes hd1 hd2
                · exact HA.out j x (by omega) hx
              case measure => simp [intOf]; omega
            · have HR := hid (isNum_bad HT.out (dg_no hd))
              have HD := hid hd
              clear hd
              go_wp2
              all_goals first
                | (go_ret; exact ⟨ret_bool HR.out.symm, rfl⟩)
                | (exfalso; apply HD.out; omega)
          · have HR := hid (isNum_good (l := s.data.toList) (by rw [data_len]; exact hp) H1.out (fun j x hx => HA.out j x (by have := (List.getElem?_eq_some_iff.1 hx).1; rw [data_len] at this; omega) hx))
            go_wp2
            go_ret
            exact ⟨ret_bool HR.out.symm, rfl⟩

set_option maxRecDepth 100000 in
theorem zzIsNumber9 (s : ByteArray) (w : World) (hs : s.size ≤ maxLen) :
    Calls Try.prog 9 #[.string s] w fun e w' => e = .returned (.bool (isNum s.data.toList)) ∧ w' = w := by
  have C := hid (isNumber13 s w hs)
  clear hs
  go_enter Try.func9, Try.ntmps9
  go_wp2_with (go_at_call 13; refine C.out.mono ?_; rintro e w1 ⟨rfl, hw⟩; rw [hw]; clear hw w1)
  go_ret
  exact ⟨rfl, rfl⟩

set_option maxRecDepth 100000 in
theorem bytes6 (s : ByteArray) (w : World) (hs : s.size ≤ maxLen) : Calls Try.prog 6 #[.string s] w fun e w' => SomeBool e ∧ w' = w := by
  unfold maxLen at hs
  go_enter Try.func6, Try.ntmps6
  go_wp2
  all_goals (go_ret; exact ⟨someBool _, rfl⟩)

set_option maxRecDepth 100000 in
theorem bytes11 (s : ByteArray) (d : Int) (w : World) (hs : s.size ≤ maxLen) : Calls Try.prog 11 #[.string s, .int .u8 d] w fun e w' => SomeBool e ∧ w' = w := by
  unfold maxLen at hs
  go_enter Try.func11, Try.ntmps11
  go_wp2
  all_goals (go_ret; exact ⟨someBool _, rfl⟩)

set_option maxRecDepth 100000 in
theorem isDigit12 (c : UInt8) (w : World) : Calls Try.prog 12 #[.int .u8 (c.toNat : Int)] w fun e w' => e = .returned (.bool (dg c)) ∧ w' = w := by
  by_cases hd : (48 : Int) ≤ (c.toNat : Int) ∧ (c.toNat : Int) ≤ 57
  · have HR := hid (dg_yes hd.1 hd.2)
    obtain ⟨hd1, hd2⟩ := hd
    go_enter Try.func12, Try.ntmps12
    go_wp2
    go_ret
    exact ⟨ret_bool HR.out.symm, rfl⟩
  · have HR := hid (dg_no hd)
    have HD := hid hd
    clear hd
    go_enter Try.func12, Try.ntmps12
    go_wp2
    all_goals (go_ret; first | exact ⟨ret_bool HR.out.symm, rfl⟩ | exact ⟨ret_bool (by rw [HR.out]; have := HD.out; simp; omega), rfl⟩)

/-- Every byte is a digit. -/
def allDg (s : ByteArray) : Bool := s.data.toList.all dg

set_option maxHeartbeats 400000 in
set_option maxRecDepth 100000 in
theorem allDigits7 (s : ByteArray) (w : World) (hs : s.size ≤ maxLen) :
    Calls Try.prog 7 #[.string s] w fun e w' => e = .returned (.bool (allDg s)) ∧ w' = w := by
  unfold maxLen at hs
  have C12 := hid isDigit12
  go_enter Try.func7, Try.ntmps7
  go_wp2
  go_loop [3] (fun i => ∃ k : Nat, k ≤ s.size ∧ i = .int .i64 k ∧ ∀ (j : Nat) x, j < k → s.data.toList[j]? = some x → dg x = true) (fun i => s.size - (intOf i).toNat)
  case atStart => exact ⟨0, Nat.zero_le _, rfl, fun j x hj => by omega⟩
  case round =>
    obtain ⟨k, hk, rfl, hall⟩ := hrel
    have HA := hid hall
    clear hall
    by_cases hlt : k < s.size
    · have HT := hid (data_at s k hlt)
      cases hd : dg (s[k]'hlt)
      · have HR : Hid (allDg s = false) := all_bad HT.out hd
        go_wp2_with (go_at_call 12; refine (C12.out _ _).mono ?_; rintro e w1 ⟨rfl, hw⟩; rw [hw]; clear hw w1)
        go_ret
        exact ⟨ret_bool HR.out.symm, rfl⟩
      · have HD := hid hd
        go_wp2_with (go_at_call 12; refine (C12.out _ _).mono ?_; rintro e w1 ⟨rfl, hw⟩; rw [hw]; clear hw w1)
        go_round
        case rel =>
          refine ⟨k + 1, by omega, by go_num, fun j x hj hx => ?_⟩
          by_cases e : j = k
          · subst e
            rw [HT.out] at hx
            cases hx
            exact HD.out
          · exact HA.out j x (by omega) hx
        case measure => simp [intOf]; omega
    · have HR : Hid (allDg s = true) := (all_good (l := s.data.toList) (fun j x hx => HA.out j x (by have := (List.getElem?_eq_some_iff.1 hx).1; rw [data_len] at this; omega) hx))
      go_wp2
      go_ret
      exact ⟨ret_bool HR.out.symm, rfl⟩

/-- It returned the string whose bytes are l. -/
def RetStr (l : List UInt8) (e : Ending) : Prop := ∃ r : ByteArray, e = .returned (.string r) ∧ r.data.toList = l

set_option maxHeartbeats 400000 in
set_option maxRecDepth 100000 in
theorem canonical8 (s : ByteArray) (w : World) (hs : s.size ≤ maxLen) :
    Calls Try.prog 8 #[.string s] w fun e w' => RetStr (canonL s.data.toList) e ∧ w' = w := by
  unfold maxLen at hs
  go_enter Try.func8, Try.ntmps8
  go_wp2
  go_loop [3] (fun i => ∃ k : Nat, k ≤ s.size ∧ i = .int .i64 k ∧ ∀ (j : Nat) x, j < k → s.data.toList[j]? = some x → x = 48) (fun i => s.size - (intOf i).toNat)
  case atStart => exact ⟨0, Nat.zero_le _, rfl, fun j x hj => by omega⟩
  case round =>
    obtain ⟨k, hk, rfl, hall⟩ := hrel
    have HA := hid hall
    clear hall
    by_cases hlt : k < s.size
    · have HT := hid (data_at s k hlt)
      cases hd : (((s[k]'hlt).toNat : Int) == 48)
      · have hdw : s.data.toList.dropWhile (· == 48) = s.data.toList.drop k := dropWhile_of k HA.out (by rw [data_len]; omega) (fun x hx => by
          rw [HT.out] at hx
          cases hx
          intro e
          rw [e] at hd
          simp at hd)
        have HR : Hid ((s.extract k s.size).data.toList = canonL s.data.toList) := by
          refine hid ?_
          unfold canonL
          rw [hdw, if_neg (by
            rw [List.isEmpty_iff]
            intro h
            have := congrArg List.length h
            simp at this
            have h3 := data_len s
            simp at h3
            omega)]
          exact Lib.extract_to_end s k
        clear hdw
        have hne : ((k : Int) == (s.size : Int)) = false := by simp; omega
        go_wp2
        go_ret
        exact ⟨⟨_, rfl, HR.out⟩, rfl⟩
      · have HD : Hid (s[k]'hlt = 48) := eq48 (by simpa using hd)
        go_wp2
        go_round
        case rel =>
          refine ⟨k + 1, by omega, by go_num, fun j x hj hx => ?_⟩
          by_cases e : j = k
          · subst e
            rw [HT.out] at hx
            cases hx
            exact HD.out
          · exact HA.out j x (by omega) hx
        case measure => simp [intOf]; omega
    · have HR : Hid ([48] = canonL s.data.toList) := by
        refine hid ?_
        have hdw : s.data.toList.dropWhile (· == 48) = s.data.toList.drop k := dropWhile_of k HA.out (by rw [data_len]; omega) (fun x hx => by
          have := (List.getElem?_eq_some_iff.1 hx).1
          rw [data_len] at this
          omega)
        unfold canonL
        rw [hdw, if_pos (by rw [List.drop_of_length_le (by rw [data_len]; omega)]; rfl)]
      go_wp2
      go_ret
      exact ⟨⟨_, rfl, HR.out⟩, rfl⟩

end Go.Proofs.Qxb6600516a
