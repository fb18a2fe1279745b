/-
  The plain part: first and last places in a list; what the map by name holds.
-/
import Derived.Test.Qxb6600503aTab
import Derived.Lib.Strings
namespace Go.Proofs.Qxb6600503a
open Go.RowKit Go.Maps

theorem beq_str {a b : ByteArray} : (a.toList == b.toList) = true ↔ a = b := by
  rw [beq_iff_eq, ByteArray.toList_eq, ByteArray.toList_eq]
  exact ⟨fun h => ByteArray.ext (Array.toList_inj.mp h), fun h => by rw [h]⟩

theorem beq_str_no {a b : ByteArray} (h : a ≠ b) : (a.toList == b.toList) = false := by
  cases hh : a.toList == b.toList
  · rfl
  · exact absurd (beq_str.1 hh) h

/-- o is the first place of q in ns, or q is not there. -/
def IsFirst (ns : List ByteArray) (q : ByteArray) : Option Nat → Prop
  | none => ∀ (j : Nat) x, ns[j]? = some x → x ≠ q
  | some k => ns[k]? = some q ∧ ∀ (j : Nat) x, j < k → ns[j]? = some x → x ≠ q

/-- .. the last place. -/
def IsLast (ns : List ByteArray) (q : ByteArray) : Option Nat → Prop
  | none => ∀ (j : Nat) x, ns[j]? = some x → x ≠ q
  | some k => ns[k]? = some q ∧ ∀ (j : Nat) x, k < j → ns[j]? = some x → x ≠ q

theorem IsFirst.uniq {ns : List ByteArray} {q : ByteArray} {a b : Option Nat} (ha : IsFirst ns q a) (hb : IsFirst ns q b) : a = b := by
  cases a with
  | none =>
    cases b with
    | none => rfl
    | some k => exact absurd rfl (ha k q hb.1)
  | some i =>
    cases b with
    | none => exact absurd rfl (hb i q ha.1)
    | some k =>
      have h1 : ¬ i < k := fun h => hb.2 i q h ha.1 rfl
      have h2 : ¬ k < i := fun h => ha.2 k q h hb.1 rfl
      congr 1
      omega

theorem IsLast.uniq {ns : List ByteArray} {q : ByteArray} {a b : Option Nat} (ha : IsLast ns q a) (hb : IsLast ns q b) : a = b := by
  cases a with
  | none =>
    cases b with
    | none => rfl
    | some k => exact absurd rfl (ha k q hb.1)
  | some i =>
    cases b with
    | none => exact absurd rfl (hb i q ha.1)
    | some k =>
      have h1 : ¬ k < i := fun h => hb.2 i q h ha.1 rfl
      have h2 : ¬ i < k := fun h => ha.2 k q h hb.1 rfl
      congr 1
      omega

/-- The place as Go's int: -1 for none. -/
def idxI : Option Nat → Int
  | none => -1
  | some k => k

/-- What 'find' answers. -/
def FindSpec (ks : List Spot) (q : ByteArray) (f : Option Spot) : Prop :=
  ∃ o : Option Nat, (ks.length ≤ 16 → IsFirst (ks.map (·.nm)) q o) ∧ (16 < ks.length → IsLast (ks.map (·.nm)) q o) ∧ f = o.bind (fun i => ks[i]?)

theorem keyLit_str (l : List UInt8) : WideAt.IsKeyLit (.string l) := trivial

theorem isMap_byName (ks : List Spot) : ∀ m : DataW Unit, IsMap m → IsMap (ks.foldl (fun m k => m.put (.string k.nm.data.toList) (encO (some k.blk))) m) := by
  induction ks with
  | nil => intro m h; exact h
  | cons k ks ih => intro m h; exact ih _ (h.put _ _)

theorem atKey_take (ks : List Spot) (q : ByteArray) : ∀ n, n ≤ ks.length →
    ∃ o : Option Nat, IsLast ((ks.take n).map (·.nm)) q o ∧ (byNameOf (ks.take n)).atKey (.string q.data.toList) .nil = encO ((o.bind (fun i => (ks.take n)[i]?)).map (·.blk)) := by
  intro n
  induction n with
  | zero =>
    intro _
    exact ⟨none, fun j x hx => by simp at hx, by simp [byNameOf]; rfl⟩
  | succ n ih =>
    intro hn
    obtain ⟨o, ho, hat⟩ := ih (by omega)
    have e : ks.take (n + 1) = ks.take n ++ [ks[n]] := by rw [List.take_succ_eq_append_getElem (by omega)]
    have hl : (ks.take n).length = n := by simp; omega
    rw [e, byNameOf_snoc]
    by_cases hq : ks[n].nm = q
    · refine ⟨some n, ⟨?_, ?_⟩, ?_⟩
      · rw [List.map_append, List.getElem?_append_right (by simp; omega), List.length_map, hl, Nat.sub_self]
        simp [hq]
      · intro j x hj hx
        have := (List.getElem?_eq_some_iff.1 hx).1
        simp at this
        omega
      · have hm : IsMap (byNameOf (ks.take n)) := isMap_byName _ _ isMap_empty
        rw [hq, atKey_put_same hm (keyLit_str _)]
        simp only [Option.bind_some]
        rw [List.getElem?_append_right (by omega), hl, Nat.sub_self]
        rfl
    · have hne : (Lit.string q.data.toList) ≠ .string (ks[n].nm.data.toList) := by
        intro h
        simp only [Lit.string.injEq] at h
        exact hq (ByteArray.ext (Array.toList_inj.mp h.symm))
      refine ⟨o, ?_, ?_⟩
      · cases o with
        | none =>
          intro j x hx
          rw [List.map_append, List.getElem?_append] at hx
          split at hx
          · exact ho j x hx
          · have h1 := (List.getElem?_eq_some_iff.1 hx).1
            simp only [List.length_map, List.map_cons, List.map_nil, List.length_cons, List.length_nil, hl] at h1 hx
            have h2 : j - n = 0 := by omega
            rw [h2] at hx
            simp at hx
            rw [← hx]
            exact hq
        | some k =>
          obtain ⟨h1, h2⟩ := ho
          have hk : k < n := by have := (List.getElem?_eq_some_iff.1 h1).1; simp at this; omega
          refine ⟨?_, ?_⟩
          · rw [List.map_append, List.getElem?_append_left (by simp; omega)]
            exact h1
          · intro j x hj hx
            rw [List.map_append, List.getElem?_append] at hx
            split at hx
            · exact h2 j x hj hx
            · have h1 := (List.getElem?_eq_some_iff.1 hx).1
              simp only [List.length_map, List.map_cons, List.map_nil, List.length_cons, List.length_nil, hl] at h1 hx
              have h2 : j - n = 0 := by omega
              rw [h2] at hx
              simp at hx
              rw [← hx]
              exact hq
      · rw [atKey_put_other hne, hat]
        cases o with
        | none => rfl
        | some k =>
          have hk : k < n := by have := (List.getElem?_eq_some_iff.1 ho.1).1; simp at this; omega
          simp only [Option.bind_some]
          rw [List.getElem?_append_left (by omega)]

theorem atKey_byName (ks : List Spot) (q : ByteArray) : ∃ o : Option Nat, IsLast (ks.map (·.nm)) q o ∧ (byNameOf ks).atKey (.string q.data.toList) .nil = encO ((o.bind (fun i => ks[i]?)).map (·.blk)) := by
  have := atKey_take ks q ks.length (Nat.le_refl _)
  simpa using this

end Go.Proofs.Qxb6600503a
