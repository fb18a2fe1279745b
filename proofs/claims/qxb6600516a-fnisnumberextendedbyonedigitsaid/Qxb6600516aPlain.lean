/-
  The plain part: decimal numbers as lists of bytes. No Go here.
-/
import Derived.Test.Qxb6600516aRows
import Derived.Lib.Strings
namespace Go.Proofs.Qxb6600516a

/-- An ASCII digit. -/
def dg (c : UInt8) : Bool := decide (48 ≤ c.toNat) && decide (c.toNat ≤ 57)

/-- A decimal number without leading zeros. -/
def isNum (l : List UInt8) : Bool := match l with
  | [] => false
  | [c] => dg c
  | c :: r => !(c == 48) && (dg c && r.all dg)

/-- The leading zeros stripped; one zero for zeros alone. -/
def canonL (l : List UInt8) : List UInt8 := if (l.dropWhile (· == 48)).isEmpty = true then [48] else l.dropWhile (· == 48)

theorem dg_48 : dg 48 = true := by decide

theorem isNum_cons (c : UInt8) (r : List UInt8) (h : r ≠ []) : isNum (c :: r) = (!(c == 48) && (dg c && r.all dg)) := by
  cases r with
  | nil => exact absurd rfl h
  | cons x y => rfl

theorem isNum_canon (l : List UInt8) : isNum l = (decide (0 < l.length) && l.all dg && (canonL l == l)) := by
  match l with
  | [] => rfl
  | [c] =>
    by_cases h : c = 48
    · subst h; decide
    · have : (c == 48) = false := by simpa using h
      simp [isNum, canonL, this]
  | c :: x :: y =>
    rw [isNum_cons c (x :: y) (by simp)]
    by_cases h : c = 48
    · subst h
      have hlen : ((x :: y).dropWhile (· == 48)).length ≤ (x :: y).length := by
        have := (List.dropWhile_suffix (p := (· == (48 : UInt8))) (l := x :: y)).length_le
        exact this
      have e : canonL (48 :: x :: y) ≠ 48 :: x :: y := by
        intro h
        have h2 := congrArg List.length h
        unfold canonL at h2
        rw [List.dropWhile_cons] at h2
        simp only [beq_self_eq_true, if_true] at h2
        split at h2
        · simp at h2
        · simp only [List.length_cons] at h2 hlen
          omega
      have e2 : (canonL (48 :: x :: y) == 48 :: x :: y) = false := by
        cases hh : canonL (48 :: x :: y) == 48 :: x :: y
        · rfl
        · exact absurd (beq_iff_eq.1 hh) e
      rw [e2]
      simp
    · have h1 : (c == 48) = false := by simpa using h
      have e : canonL (c :: x :: y) = c :: x :: y := by simp [canonL, h1]
      rw [e, h1]
      simp [List.all_cons]

theorem isNum_snoc (l : List UInt8) (d : UInt8) (hd : dg d = true) : isNum (l ++ [d]) = (l.isEmpty || (isNum l && !(l == [48]))) := by
  match l with
  | [] => simpa [isNum] using hd
  | [c] =>
    show isNum (c :: [d]) = _
    rw [isNum_cons c [d] (by simp)]
    by_cases h : c = 48
    · subst h; simp
    · have h1 : (c == 48) = false := by simpa using h
      have h2 : ([c] == [48]) = false := by simpa using h
      simp [isNum, h1, h2, hd]
  | c :: x :: y =>
    show isNum (c :: (x :: y ++ [d])) = _
    rw [isNum_cons c _ (by simp), isNum_cons c (x :: y) (by simp)]
    have h2 : (c :: x :: y == [48]) = false := by simp
    simp [hd, h2]

/-- Padded, it is none. -/
theorem isNum_pad (l : List UInt8) (h : isNum l = true) : isNum (48 :: l) = false ∧ isNum (45 :: l) = false ∧ isNum (43 :: l) = false := by
  have hne : l ≠ [] := by
    intro e
    subst e
    simp [isNum] at h
  refine ⟨?_, ?_, ?_⟩ <;> rw [isNum_cons _ l hne]
  · simp
  · have : dg 45 = false := by decide
    simp [this]
  · have : dg 43 = false := by decide
    simp [this]

/-- Digits of which the first is no zero. -/
theorem isNum_of_digits (c : UInt8) (r : List UInt8) (hc : c ≠ 48) (hd : ∀ x ∈ c :: r, dg x = true) : isNum (c :: r) = true := by
  have hdc := hd c (by simp)
  by_cases hr : r = []
  · subst hr; exact hdc
  · rw [isNum_cons c r hr]
    have h1 : (c == 48) = false := by simpa using hc
    have h2 : r.all dg = true := List.all_eq_true.2 (fun x hx => hd x (by simp [hx]))
    simp [h1, hdc, h2]

theorem isNum_bad {l : List UInt8} {k : Nat} {x : UInt8} (hk : l[k]? = some x) (hx : dg x = false) : isNum l = false := by
  rw [isNum_canon]
  have : l.all dg = false := by
    cases h : l.all dg
    · rfl
    · rw [List.all_eq_true.1 h x (List.mem_of_getElem? hk)] at hx
      cases hx
  simp [this]

theorem isNum_zero {l : List UInt8} (h0 : l[0]? = some 48) (h1 : 1 < l.length) : isNum l = false := by
  match l, h0, h1 with
  | c :: x :: y, h0, _ =>
    simp at h0
    subst h0
    rw [isNum_cons _ _ (by simp)]
    simp

theorem isNum_good {l : List UInt8} (h0 : 0 < l.length) (h1 : l[0]? = some 48 → l.length ≤ 1) (h2 : ∀ (j : Nat) x, l[j]? = some x → dg x = true) : isNum l = true := by
  match l, h0, h1, h2 with
  | [c], _, _, h2 => exact h2 0 c rfl
  | c :: x :: y, _, h1, h2 =>
    refine isNum_of_digits c (x :: y) (fun e => by have := h1 (by simp [e]); simp at this) (fun z hz => ?_)
    obtain ⟨j, hj⟩ := List.getElem?_of_mem hz
    exact h2 j z hj

theorem all_bad {l : List UInt8} {k : Nat} {x : UInt8} (hk : l[k]? = some x) (hx : dg x = false) : l.all dg = false := by
  cases h : l.all dg
  · rfl
  · rw [List.all_eq_true.1 h x (List.mem_of_getElem? hk)] at hx
    cases hx

theorem all_good {l : List UInt8} (h2 : ∀ (j : Nat) x, l[j]? = some x → dg x = true) : l.all dg = true := by
  rw [List.all_eq_true]
  intro z hz
  obtain ⟨j, hj⟩ := List.getElem?_of_mem hz
  exact h2 j z hj

theorem dropWhile_of {l : List UInt8} : ∀ (k : Nat), (∀ (j : Nat) x, j < k → l[j]? = some x → x = 48) → k ≤ l.length → (∀ x, l[k]? = some x → x ≠ 48) → l.dropWhile (· == 48) = l.drop k := by
  intro k
  induction k generalizing l with
  | zero =>
    intro _ _ h
    match l with
    | [] => rfl
    | c :: r =>
      have : (c == 48) = false := by simpa using h c rfl
      simp [this]
  | succ k ih =>
    intro h1 h2 h3
    match l, h1, h2, h3 with
    | c :: r, h1, h2, h3 =>
      obtain rfl := h1 0 c (by omega) rfl
      simp only [List.dropWhile_cons, beq_self_eq_true, if_true, List.drop_succ_cons]
      exact ih (fun j x hj hx => h1 (j + 1) x (by omega) (by simpa using hx)) (by simpa using h2) (fun x hx => h3 x (by simpa using hx))

end Go.Proofs.Qxb6600516a
