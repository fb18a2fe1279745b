/-
  zzTomlB1FindsAt (function 18).
-/
import Derived.Test.Qxb6600503aFind
namespace Go.Proofs.Qxb6600503a
open Go.RowKit Go.Maps

/-- What 'find' answers agrees with the place that is wanted. -/
def Agree (ns : List ByteArray) (ks : List Spot) (last : Bool) : Prop :=
  ∀ q o f, (if last = true then IsLast ns q o else IsFirst ns q o) → FindSpec ks q f → (o = none ∧ f = none) ∨ ∃ i kb, o = some i ∧ f = some ⟨kb, q, i⟩

theorem Tab.key_of_find {w : World} {base T : Nat} {ks : List Spot} (h : Tab w base T ks) {q : ByteArray} {k : Spot} (hf : FindSpec ks q (some k)) : KeyAt w k := by
  obtain ⟨v, m, hT, _⟩ := h
  obtain ⟨o, _, _, e⟩ := hf
  cases o with
  | none => simp at e
  | some i =>
    simp only [Option.bind_some] at e
    exact (hT.keys k (List.mem_of_getElem? e.symm)).2.2

set_option maxHeartbeats 1000000 in
set_option maxRecDepth 100000 in
theorem findsAt (base T : Nat) (ks : List Spot) (v vq : Value) (ns qs : List ByteArray) (last : Bool) (w : World) (hT : Tab w base T ks) (hv : NamesV w v ns) (hvq : NamesV w vq qs) (hn : ns.length ≤ 100000) (hq : qs.length ≤ 100000)
    (hqs : ∀ q ∈ qs, q.size ≤ maxLen) (hag : Agree ns ks last) :
    Calls Try.prog 18 #[.pointer (some ⟨T, 0, none⟩), v, vq, .bool last] w fun e w' => e = .returned (.bool true) ∧ w' = w := by
  rcases hvq with ⟨rfl, rfl⟩ | ⟨B, rfl, hN⟩
  · clear hT hv hag
    go_enter Try.func18, Try.ntmps18
    go_wp2
    refine wp_loop_rounds 1 ?_
    rw [rounds_succ]
    go_wp2
    go_ret
    exact ⟨rfl, rfl⟩
  · have C13 := hid (fun q => first13 v ns q w hv hn)
    have C23 := hid (fun q => last23 v ns q w hv hn)
    have C10 := hid (fun q h => zzFind base T ks q w hT h)
    have CK := hid (fun q k h => hT.key_of_find (q := q) (k := k) h)
    have HAG := hid hag
    clear hv hT hag
    cases last
    all_goals
      go_enter Try.func18, Try.ntmps18
      go_wp2
      go_loop [9] (fun i => ∃ k : Nat, k ≤ qs.length ∧ i = .int .i64 k) (fun i => qs.length - (intOf i).toNat)
      case atStart => exact ⟨0, Nat.zero_le _, rfl⟩
      case round =>
        obtain ⟨j, hj, rfl⟩ := hrel
        by_cases hlt : j < qs.length
        · have hck := hN.cell j hlt
          have e1 : qs.getD j ByteArray.empty = qs[j] := by simp [hlt]
          have hsz := hqs qs[j] (List.getElem_mem hlt)
          rw [e1] at hck
          generalize qs[j] = q at hck hsz
          clear e1
          go_wp2_with (first
            | (go_at_call 13; refine (C13.out q).mono ?_; rintro e w1 ⟨⟨o, ho, rfl⟩, hw⟩; rw [hw]; clear hw w1)
            | (go_at_call 23; refine (C23.out q).mono ?_; rintro e w1 ⟨⟨o2, ho2, rfl⟩, hw⟩; rw [hw]; clear hw w1))
          refine (C10.out q hsz).mono ?_
          rintro e w1 ⟨⟨f, hf, rfl⟩, hw⟩
          rw [hw]
          clear hw w1
          have hA := HAG.out q _ f (by first | exact ho2 | exact ho) hf
          rcases hA with ⟨ho0, hf0⟩ | ⟨i, kb, ho0, hf0⟩
          · rw [ho0, hf0]
            simp only [idxI, Option.map_none]
            clear ho0 hf0 hf ho
            try clear ho2
            go_wp2
            go_round
            case rel => exact ⟨j + 1, by omega, by go_num⟩
            case measure => simp [intOf]; omega
          · rw [hf0] at hf
            have hKA := CK.out q _ hf
            have C16 := hid (zzLine _ w hKA)
            have C17 := hid (zzName _ w hKA)
            rw [ho0, hf0]
            simp only [idxI, Option.map_some]
            clear ho0 hf0 hf ho hKA
            try clear ho2
            go_wp2_with (first
              | (go_at_call 16; refine C16.out.mono ?_; rintro e w1 ⟨rfl, hw⟩; rw [hw]; clear hw w1)
              | (go_at_call 17; refine C17.out.mono ?_; rintro e w1 ⟨rfl, hw⟩; rw [hw]; clear hw w1))
            go_round
            case rel => exact ⟨j + 1, by omega, by go_num⟩
            case measure => simp [intOf]; omega
        · go_wp2
          go_ret
          exact ⟨rfl, rfl⟩

end Go.Proofs.Qxb6600503a
