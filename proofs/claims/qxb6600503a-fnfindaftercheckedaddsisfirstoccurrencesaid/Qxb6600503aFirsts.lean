/-
  The plain part of FnFindAfterCheckedAddsIsFirstOccurrence: the places of first occurrence; keys that lie just there.
-/
import Derived.Test.Qxb6600503aFindsAt
namespace Go.Proofs.Qxb6600503a
open Go.RowKit Go.Maps

/-- Place i is the first of its name. -/
def isF (ns : List ByteArray) (i : Nat) : Bool := (ns.take i).all fun x => decide (x ≠ ns.getD i ByteArray.empty)

/-- The places below j of first occurrence, in order. -/
def firsts (ns : List ByteArray) : Nat → List Nat
  | 0 => []
  | j + 1 => firsts ns j ++ (if isF ns j = true then [j] else [])

theorem isF_iff {ns : List ByteArray} {i : Nat} {q : ByteArray} (h : ns[i]? = some q) : isF ns i = true ↔ IsFirst ns q (some i) := by
  have hi : i < ns.length := (List.getElem?_eq_some_iff.1 h).1
  have e : ns.getD i ByteArray.empty = q := by simp [h]
  unfold isF
  rw [e, List.all_eq_true]
  constructor
  · intro hh
    refine ⟨h, fun j x hj hx => ?_⟩
    have hm : x ∈ ns.take i := List.mem_of_getElem? (i := j) (by rw [List.getElem?_take, if_pos hj]; exact hx)
    simpa using hh x hm
  · intro hh x hx
    obtain ⟨j, hj⟩ := List.getElem?_of_mem hx
    have hlt := (List.getElem?_eq_some_iff.1 hj).1
    have hji : j < i := by simp at hlt; omega
    rw [List.getElem?_take, if_pos hji] at hj
    simpa using hh.2 j x hji hj

theorem firsts_at (ns : List ByteArray) (i : Nat) (hf : isF ns i = true) : ∀ n, i < n → (firsts ns n)[(firsts ns i).length]? = some i := by
  intro n
  induction n with
  | zero => intro h; omega
  | succ n ih =>
    intro h
    by_cases e : i = n
    · subst e
      simp [firsts, hf]
    · have := ih (by omega)
      have hlt := (List.getElem?_eq_some_iff.1 this).1
      rw [firsts, List.getElem?_append_left hlt]
      exact this

theorem firsts_mem (ns : List ByteArray) : ∀ (n i : Nat), i ∈ firsts ns n ↔ i < n ∧ isF ns i = true := by
  intro n
  induction n with
  | zero => intro i; simp [firsts]
  | succ n ih =>
    intro i
    rw [firsts, List.mem_append, ih]
    constructor
    · rintro (⟨h1, h2⟩ | h)
      · exact ⟨by omega, h2⟩
      · split at h
        · rename_i hf
          obtain rfl : i = n := by simpa using h
          exact ⟨by omega, hf⟩
        · simp at h
    · rintro ⟨h1, h2⟩
      by_cases e : i = n
      · subst e
        exact Or.inr (by simp [h2])
      · exact Or.inl ⟨by omega, h2⟩

theorem firsts_succ {ns : List ByteArray} {j : Nat} (h : isF ns j = true) : firsts ns (j + 1) = firsts ns j ++ [j] := by simp [firsts, h]
theorem firsts_same {ns : List ByteArray} {j : Nat} (h : isF ns j = false) : firsts ns (j + 1) = firsts ns j := by simp [firsts, h]

theorem firsts_le (ns : List ByteArray) : ∀ n, (firsts ns n).length ≤ n := by
  intro n
  induction n with
  | zero => simp [firsts]
  | succ n ih =>
    rw [firsts, List.length_append]
    split <;> simp <;> omega

/-- ks are the keys at the first occurrences below j. -/
structure KF (ks : List Spot) (ns : List ByteArray) (j : Nat) : Prop where
  len : ks.length = (firsts ns j).length
  key : ∀ (c : Nat) k, ks[c]? = some k → ∃ i : Nat, (firsts ns j)[c]? = some i ∧ k.line = i ∧ ns[i]? = some k.nm

theorem kf_zero (ns : List ByteArray) : KF [] ns 0 := ⟨rfl, by intro c k h; simp at h⟩

theorem KF.same {ks : List Spot} {ns : List ByteArray} {j : Nat} (h : KF ks ns j) (hf : isF ns j = false) : KF ks ns (j + 1) :=
  ⟨by rw [firsts_same hf]; exact h.len, by rw [firsts_same hf]; exact h.key⟩

theorem KF.snoc {ks : List Spot} {ns : List ByteArray} {j : Nat} (h : KF ks ns j) (hf : isF ns j = true) {k : Spot} (h1 : k.line = j) (h2 : ns[j]? = some k.nm) : KF (ks ++ [k]) ns (j + 1) := by
  refine ⟨by rw [firsts_succ hf]; simp [h.len], ?_⟩
  intro c k' hk'
  rw [firsts_succ hf]
  rw [List.getElem?_append] at hk'
  split at hk'
  · rename_i hc
    obtain ⟨i, hi⟩ := h.key c k' hk'
    exact ⟨i, by rw [List.getElem?_append_left (by rw [← h.len]; exact hc)]; exact hi.1, hi.2⟩
  · have hc : c - ks.length = 0 := by
      have := (List.getElem?_eq_some_iff.1 hk').1
      simp at this
      omega
    rw [hc] at hk'
    simp at hk'
    subst hk'
    refine ⟨j, ?_, h1, h2⟩
    rw [List.getElem?_append_right (by rw [← h.len]; omega), ← h.len, hc]
    rfl

/-- A key of such a table is the first of its name. -/
theorem KF.first {ks : List Spot} {ns : List ByteArray} {j : Nat} (h : KF ks ns j) {k : Spot} (hk : k ∈ ks) : ∃ i : Nat, i < j ∧ k.line = i ∧ ns[i]? = some k.nm ∧ IsFirst ns k.nm (some i) := by
  obtain ⟨c, hc⟩ := List.getElem?_of_mem hk
  obtain ⟨i, h1, h2, h3⟩ := h.key c k hc
  have hm := (firsts_mem ns j i).1 (List.mem_of_getElem? h1)
  exact ⟨i, hm.1, h2, h3, (isF_iff h3).1 hm.2⟩

/-- .. and each first place below j has its key. -/
theorem KF.has {ks : List Spot} {ns : List ByteArray} {j : Nat} (h : KF ks ns j) {i : Nat} {q : ByteArray} (hi : i < j) (hq : IsFirst ns q (some i)) : ∃ k ∈ ks, k.nm = q := by
  have hm := (firsts_mem ns j i).2 ⟨hi, (isF_iff hq.1).2 hq⟩
  obtain ⟨c, hc⟩ := List.getElem?_of_mem hm
  have hlt : c < ks.length := by rw [h.len]; exact (List.getElem?_eq_some_iff.1 hc).1
  obtain ⟨i', h1, h2, h3⟩ := h.key c ks[c] (List.getElem?_eq_getElem hlt)
  rw [hc] at h1
  cases h1
  rw [hq.1] at h3
  cases h3
  exact ⟨ks[c], List.getElem_mem hlt, rfl⟩

/-- 'find' answers a key of that name, or nil where there is none. -/
theorem find_none {ks : List Spot} {q : ByteArray} (h : FindSpec ks q none) : ∀ k ∈ ks, k.nm ≠ q := by
  obtain ⟨o, h1, h2, hf⟩ := h
  intro k hk e
  obtain ⟨c, hc⟩ := List.getElem?_of_mem hk
  have hn : (ks.map (·.nm))[c]? = some q := by rw [List.getElem?_map, hc, ← e]; rfl
  cases o with
  | none =>
    by_cases hl : ks.length ≤ 16
    · exact h1 hl c q hn rfl
    · exact h2 (by omega) c q hn rfl
  | some i =>
    have hi : (ks.map (·.nm))[i]? = some q := by
      by_cases hl : ks.length ≤ 16
      · exact (h1 hl).1
      · exact (h2 (by omega)).1
    have hlt := (List.getElem?_eq_some_iff.1 hi).1
    simp at hlt
    rw [Option.bind_some, List.getElem?_eq_getElem hlt] at hf
    cases hf

theorem find_some {ks : List Spot} {q : ByteArray} {k : Spot} (h : FindSpec ks q (some k)) : k ∈ ks ∧ k.nm = q := by
  obtain ⟨o, h1, h2, hf⟩ := h
  cases o with
  | none => simp at hf
  | some i =>
    have hi : (ks.map (·.nm))[i]? = some q := by
      by_cases hl : ks.length ≤ 16
      · exact (h1 hl).1
      · exact (h2 (by omega)).1
    rw [Option.bind_some] at hf
    rw [List.getElem?_map, ← hf] at hi
    exact ⟨List.mem_of_getElem? hf.symm, by simpa using hi⟩

/-- Every list that holds q has a first place of q, at or below any given one. -/
theorem first_exists {ns : List ByteArray} {q : ByteArray} : ∀ (i : Nat), ns[i]? = some q → ∃ i0, i0 ≤ i ∧ IsFirst ns q (some i0) := by
  intro i
  induction i using Nat.strongRecOn with
  | _ i ih =>
    intro h
    by_cases hex : ∃ j, j < i ∧ ns[j]? = some q
    · obtain ⟨j, hj, hq⟩ := hex
      obtain ⟨i0, h0, hf⟩ := ih j hj hq
      exact ⟨i0, by omega, hf⟩
    · exact ⟨i, Nat.le_refl _, h, fun j x hj hx e => hex ⟨j, hj, by rw [hx, e]⟩⟩

/-- In the round: 'find' answers nil just where the place is the first of its name. -/
theorem KF.round {ks : List Spot} {ns : List ByteArray} {j : Nat} {q : ByteArray} {f : Option Spot} (h : KF ks ns j) (hq : ns[j]? = some q) (hf : FindSpec ks q f) : (f = none ∧ isF ns j = true) ∨ (∃ k, f = some k) ∧ isF ns j = false := by
  cases f with
  | none =>
    refine Or.inl ⟨rfl, (isF_iff hq).2 ⟨hq, fun i x hi hx e => ?_⟩⟩
    subst e
    obtain ⟨i0, h0, hF⟩ := first_exists i hx
    obtain ⟨k, hk, he⟩ := h.has (by omega) hF
    exact find_none hf k hk he
  | some k =>
    refine Or.inr ⟨⟨k, rfl⟩, ?_⟩
    obtain ⟨hk, he⟩ := find_some hf
    obtain ⟨i, hi, _, h3, _⟩ := h.first hk
    cases hb : isF ns j with
    | false => rfl
    | true => exact absurd he (((isF_iff hq).1 hb).2 i k.nm hi h3)

theorem agree_checked {ks : List Spot} {ns : List ByteArray} (h : KF ks ns ns.length) : Agree ns ks false := by
  intro q o f ho hf
  rw [if_neg (by simp)] at ho
  cases f with
  | none =>
    cases o with
    | none => exact Or.inl ⟨rfl, rfl⟩
    | some i =>
      obtain ⟨k, hk, he⟩ := h.has (by have := (List.getElem?_eq_some_iff.1 ho.1).1; exact this) ho
      exact absurd he (find_none hf k hk)
  | some k =>
    obtain ⟨hk, he⟩ := find_some hf
    obtain ⟨i, _, h2, _, h4⟩ := h.first hk
    rw [he] at h4
    refine Or.inr ⟨i, k.blk, ho.uniq h4, ?_⟩
    cases k
    simp at he h2
    simp [he, h2]

end Go.Proofs.Qxb6600503a
