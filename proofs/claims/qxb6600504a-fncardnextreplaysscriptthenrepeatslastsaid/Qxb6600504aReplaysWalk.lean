/-
  FnCardNextReplaysScriptThenRepeatsLast (function 3): the walk.
-/
import Derived.Test.Qxb6600504aNext
namespace Go.Proofs.Qxb6600504a
open Go.RowKit

theorem Try.info5 : (Try.prog.info? 5).map (fun i => (i.zero, i.size, i.bytes)) = some (some (.int .u8 0), 1, 1) := by kernel_rfl

/-- The row at block B, m cells, holds in its first k cells what f says. -/
structure Filled (w wr : World) (B m k : Nat) (f : Nat → Int) (xs : List Value) : Prop where
  own : wr.ownsRow B 5 1 (.slice (some ⟨B, 0, none⟩) m m) m xs
  cell : ∀ j, j < k → xs[j]? = some (.int .u8 (f j))
  below : Below B w wr

theorem Filled.old {w wr : World} {B m k : Nat} {f : Nat → Int} {xs : List Value} (h : Filled w wr B m k f xs) {i : Nat} (hi : i < m) : ∃ u, wr.cell? ⟨B, i, none⟩ = some u := by
  have hl : xs.length = m := by simpa using h.own.1
  exact ⟨_, (h.own.cellAt i (by omega)).trans (List.getElem?_eq_getElem (by omega))⟩

/-- A store at place i. -/
theorem Filled.put {w wr : World} {B m k k' : Nat} {f g : Nat → Int} {xs : List Value} (h : Filled w wr B m k f xs) {i : Nat} (hi : i < m) (v : Int) (hv : g i = v) (hg : ∀ j, j < k' → j ≠ i → j < k ∧ g j = f j) :
    Filled w (wr.setCell ⟨B, i, none⟩ (.int .u8 v)) B m k' g (xs.set i (.int .u8 v)) := by
  have hl : xs.length = m := by simpa using h.own.1
  refine ⟨(h.own.stored i _).1, fun j hj => ?_, h.below.setCell (Nat.le_refl _) _⟩
  by_cases e : j = i
  · subst e
    rw [List.getElem?_set_self (by omega), hv]
  · rw [List.getElem?_set_ne (by omega), h.cell j (hg j hj e).1, (hg j hj e).2]

theorem Filled.read {w wr : World} {B m k : Nat} {f : Nat → Int} {xs : List Value} (h : Filled w wr B m k f xs) {i : Nat} (hi : i < k) (him : i < m) : wr.cell? ⟨B, i, none⟩ = some (.int .u8 (f i)) :=
  (h.own.cellAt i (by omega)).trans (h.cell i hi)

theorem Filled.later {w wr w' : World} {B m k : Nat} {f : Nat → Int} {xs : List Value} (h : Filled w wr B m k f xs) (hb : Below wr.heap.size wr w') : Filled w w' B m k f xs := by
  have hlt : B < wr.heap.size := (h.own.lt B rfl).2
  have hle := hlt
  have hB : B ≤ B := Nat.le_refl _
  refine ⟨⟨h.own.1, ?_⟩, h.cell, h.below.trans (hb.mono (by omega))⟩
  rcases h.own.2 with ⟨e, _⟩ | ⟨g', cap', cur, e, r1, r2, r3⟩
  · simp at e
  · simp only [Value.slice.injEq, Option.some.injEq, Addr.mk.injEq, and_true, true_and] at e
    obtain ⟨rfl, rfl⟩ := e
    exact Or.inr ⟨B, m, cur, rfl, r1, (hb.block B hlt).trans r2, r3⟩

set_option maxHeartbeats 1000000 in
set_option maxRecDepth 100000 in
theorem replays_in (s : ByteArray) (N m : Nat) (w : World) (h1 : s.size ≤ 1048576) (h0 : 0 < s.size) (hN : N ≤ 65536) (hm1 : s.size ≤ m) (hm2 : N ≤ m) (hm : m ≤ 1048576)
    (hcase : (s.size < N ∧ N = m) ∨ (N ≤ s.size ∧ s.size = m)) :
    Calls Try.prog 3 #[.string s, .int .i64 N] w fun e w' => e = .returned (.bool true) ∧ Below w.heap.size w w' := by
  have C5 := hid (bytes5 s N w (by unfold maxLen; omega))
  have C6 := hid (fun c w' hc => card6 s c w' h1 h0 hc)
  obtain ⟨l, hl⟩ : ∃ l, s.size = l + 1 := ⟨s.size - 1, by omega⟩
  have hsub : ((s.size : Int) - 1) = (l : Int) := by omega
  have hll : l < s.size := by omega
  have hat := at_eq s l hll
  have hne : s.toList.isEmpty = false := by
    cases hh : s.toList.isEmpty
    · rfl
    · rw [List.isEmpty_iff, ByteArray.toList_eq] at hh
      have : s.data.toList.length = 0 := by rw [hh]; rfl
      simp at this
      have h2 : s.size = s.data.size := rfl
      rw [h2, this] at h0
      simp at h0
  have HL := hid hl
  clear hl
  obtain ⟨i0, hi, hz0, hz1, hz2⟩ := info_parts Try.info5
  rcases hcase with ⟨hc1, rfl⟩ | ⟨hc1, rfl⟩
  · go_enter Try.func3, Try.ntmps3
    go_wp2_with (first
      | (go_at_call 5; refine C5.out.mono ?_; rintro e w1 ⟨⟨b, rfl⟩, hw⟩; rw [hw]; clear hw w1)
      | (at_make; refine wpList_make_full _ rfl _ _ 23 rfl w.heap.size 5 i0 (.int .u8 0) 1 Try.underlying23 hi hz0 hz1 _ _ _ _ N rfl rfl rfl rfl ?b2 ?b3 ?b4 ?_))
    all_goals try (go_ret; exact ⟨rfl, Below.refl _ _⟩)
    case b2 => rw [hz2]; omega
    case b3 => unfold maxLen; omega
    case b4 => exact Nat.le_refl _
    intro w1 hown1 hgrow1
    have hF1 : Filled w w1 w.heap.size N 0 (fun _ => at_ s l) _ :=
      ⟨hown1, fun j hj => by omega, (Below.refl _ _).grown hgrow1 (Nat.le_refl _) (by simp)⟩
    have HF1 := hid hF1
    clear hF1 hown1 hgrow1 C5
    go_wp2
    go_loopw [8] (fun i wr => ∃ (k : Nat) (xs : List Value), k ≤ N ∧ i = .int .i64 k ∧ Filled w wr w.heap.size N k (fun _ => at_ s l) xs) (fun i _ => N - (intOf i).toNat)
    case atStart => exact ⟨0, _, Nat.zero_le _, rfl, HF1.out⟩
    case round =>
      obtain ⟨k, xs, hk, rfl, hF⟩ := hrel
      clear HF1
      by_cases hlt : k < N
      · obtain ⟨u, hu⟩ := hF.old hlt
        have hfz := hF.own.frozenAt k
        have HP := hid (hF.put (k' := k + 1) (g := fun _ => at_ s l) hlt (at_ s l) rfl (fun j hj hne => ⟨by omega, rfl⟩))
        clear hF
        go_wp2
        go_roundw
        case rel => exact ⟨k + 1, _, by omega, by go_num, HP.out⟩
        case measure => simp [intOf]; omega
      · have hF2 : Filled w wr w.heap.size N N (fun j => if j < 0 then at_ s j else at_ s l) xs := ⟨hF.own, fun j hj => by rw [if_neg (by omega)]; exact hF.cell j (by omega), hF.below⟩
        have HF2 := hid hF2
        clear hF hF2
        go_wp2
        go_loopw [9] (fun i wr => ∃ (k : Nat) (xs : List Value), k ≤ s.size ∧ i = .int .i64 k ∧ Filled w wr w.heap.size N N (fun j => if j < k then at_ s j else at_ s l) xs) (fun i _ => s.size - (intOf i).toNat)
        case atStart => exact ⟨0, _, Nat.zero_le _, rfl, HF2.out⟩
        case round =>
          obtain ⟨k, xs, hk, rfl, hF⟩ := hrel
          clear HF2
          by_cases hlt2 : k < s.size
          · obtain ⟨u, hu⟩ := hF.old (show k < N by omega)
            have hfz := hF.own.frozenAt k
            have hatk := at_eq s k hlt2
            have HP := hid (hF.put (k' := N) (g := fun j => if j < k + 1 then at_ s j else at_ s l) (show k < N by omega) (at_ s k) (if_pos (by omega)) (fun j hj hne => ⟨hj, by
              by_cases hjk : j < k
              · rw [if_pos hjk, if_pos (by omega)]
              · rw [if_neg hjk, if_neg (by omega)]⟩))
            clear hF
            go_wp2
            go_roundw
            case rel => exact ⟨k + 1, _, by omega, by go_num, HP.out⟩
            case measure => simp [intOf]; omega
          · have hF3 : Filled w wr w.heap.size N N (fun j => at_ s (min j (s.size - 1))) xs := ⟨hF.own, fun j hj => by
              rw [hF.cell j hj]
              by_cases hjk : j < k
              · rw [if_pos hjk, Nat.min_eq_left (by omega)]
              · rw [if_neg hjk, Nat.min_eq_right (by omega)]
                have := HL.out
                rw [this]
                rfl, hF.below⟩
            have HF3 := hid hF3
            clear hF hF3
            go_wp2
            go_loopw [10, 11] (fun c i wr => ∃ (k : Nat) (xs : List Value), k ≤ N ∧ i = .int .i64 k ∧ c = .int .i64 k ∧ Filled w wr w.heap.size N N (fun j => at_ s (min j (s.size - 1))) xs) (fun _ i _ => N - (intOf i).toNat)
            case atStart => exact ⟨0, _, Nat.zero_le _, rfl, rfl, HF3.out⟩
            case round =>
              obtain ⟨k, xs, hk, rfl, rfl, hF⟩ := hrel
              clear HF3
              by_cases hlt3 : k < N
              · have HF := hid hF
                clear hF
                go_wp2_with (go_at_call 6; refine (C6.out k _ (by omega)).mono ?_; rintro e w2 ⟨rfl, hB2⟩; have hF2 := HF.out.later hB2; have hrd := hF2.read (i := k) (by omega) (by omega); have HF4 := hid hF2; clear hB2 hF2)
                go_roundw
                case rel => exact ⟨k + 1, _, by omega, by go_num, by go_num, HF4.out⟩
                case measure => simp [intOf]; omega
              · have HB := hid hF.below
                clear hF
                go_wp2
                go_ret
                exact ⟨rfl, HB.out⟩
  · go_enter Try.func3, Try.ntmps3
    go_wp2_with (first
      | (go_at_call 5; refine C5.out.mono ?_; rintro e w1 ⟨⟨b, rfl⟩, hw⟩; rw [hw]; clear hw w1)
      | (at_make; refine wpList_make_full _ rfl _ _ 23 rfl w.heap.size 5 i0 (.int .u8 0) 1 Try.underlying23 hi hz0 hz1 _ _ _ _ s.size rfl rfl rfl rfl ?b2 ?b3 ?b4 ?_))
    all_goals try (go_ret; exact ⟨rfl, Below.refl _ _⟩)
    case b2 => rw [hz2]; omega
    case b3 => unfold maxLen; omega
    case b4 => exact Nat.le_refl _
    intro w1 hown1 hgrow1
    have hF1 : Filled w w1 w.heap.size s.size 0 (fun _ => at_ s l) _ :=
      ⟨hown1, fun j hj => by omega, (Below.refl _ _).grown hgrow1 (Nat.le_refl _) (by simp)⟩
    have HF1 := hid hF1
    clear hF1 hown1 hgrow1 C5
    go_wp2
    go_loopw [8] (fun i wr => ∃ (k : Nat) (xs : List Value), k ≤ s.size ∧ i = .int .i64 k ∧ Filled w wr w.heap.size s.size k (fun _ => at_ s l) xs) (fun i _ => s.size - (intOf i).toNat)
    case atStart => exact ⟨0, _, Nat.zero_le _, rfl, HF1.out⟩
    case round =>
      obtain ⟨k, xs, hk, rfl, hF⟩ := hrel
      clear HF1
      by_cases hlt : k < s.size
      · obtain ⟨u, hu⟩ := hF.old hlt
        have hfz := hF.own.frozenAt k
        have HP := hid (hF.put (k' := k + 1) (g := fun _ => at_ s l) hlt (at_ s l) rfl (fun j hj hne => ⟨by omega, rfl⟩))
        clear hF
        go_wp2
        go_roundw
        case rel => exact ⟨k + 1, _, by omega, by go_num, HP.out⟩
        case measure => simp [intOf]; omega
      · have hF2 : Filled w wr w.heap.size s.size s.size (fun j => if j < 0 then at_ s j else at_ s l) xs := ⟨hF.own, fun j hj => by rw [if_neg (by omega)]; exact hF.cell j (by omega), hF.below⟩
        have HF2 := hid hF2
        clear hF hF2
        go_wp2
        go_loopw [9] (fun i wr => ∃ (k : Nat) (xs : List Value), k ≤ s.size ∧ i = .int .i64 k ∧ Filled w wr w.heap.size s.size s.size (fun j => if j < k then at_ s j else at_ s l) xs) (fun i _ => s.size - (intOf i).toNat)
        case atStart => exact ⟨0, _, Nat.zero_le _, rfl, HF2.out⟩
        case round =>
          obtain ⟨k, xs, hk, rfl, hF⟩ := hrel
          clear HF2
          by_cases hlt2 : k < s.size
          · obtain ⟨u, hu⟩ := hF.old (show k < s.size by omega)
            have hfz := hF.own.frozenAt k
            have hatk := at_eq s k hlt2
            have HP := hid (hF.put (k' := s.size) (g := fun j => if j < k + 1 then at_ s j else at_ s l) (show k < s.size by omega) (at_ s k) (if_pos (by omega)) (fun j hj hne => ⟨hj, by
              by_cases hjk : j < k
              · rw [if_pos hjk, if_pos (by omega)]
              · rw [if_neg hjk, if_neg (by omega)]⟩))
            clear hF
            go_wp2
            go_roundw
            case rel => exact ⟨k + 1, _, by omega, by go_num, HP.out⟩
            case measure => simp [intOf]; omega
          · have hF3 : Filled w wr w.heap.size s.size s.size (fun j => at_ s (min j (s.size - 1))) xs := ⟨hF.own, fun j hj => by
              rw [hF.cell j hj]
              by_cases hjk : j < k
              · rw [if_pos hjk, Nat.min_eq_left (by omega)]
              · rw [if_neg hjk, Nat.min_eq_right (by omega)]
                have := HL.out
                rw [this]
                rfl, hF.below⟩
            have HF3 := hid hF3
            clear hF hF3
            go_wp2
            go_loopw [10, 11] (fun c i wr => ∃ (k : Nat) (xs : List Value), k ≤ N ∧ i = .int .i64 k ∧ c = .int .i64 k ∧ Filled w wr w.heap.size s.size s.size (fun j => at_ s (min j (s.size - 1))) xs) (fun _ i _ => N - (intOf i).toNat)
            case atStart => exact ⟨0, _, Nat.zero_le _, rfl, rfl, HF3.out⟩
            case round =>
              obtain ⟨k, xs, hk, rfl, rfl, hF⟩ := hrel
              clear HF3
              by_cases hlt3 : k < N
              · have HF := hid hF
                clear hF
                go_wp2_with (go_at_call 6; refine (C6.out k _ (by omega)).mono ?_; rintro e w2 ⟨rfl, hB2⟩; have hF2 := HF.out.later hB2; have hrd := hF2.read (i := k) (by omega) (by omega); have HF4 := hid hF2; clear hB2 hF2)
                go_roundw
                case rel => exact ⟨k + 1, _, by omega, by go_num, by go_num, HF4.out⟩
                case measure => simp [intOf]; omega
              · have HB := hid hF.below
                clear hF
                go_wp2
                go_ret
                exact ⟨rfl, HB.out⟩

set_option maxHeartbeats 1000000 in
set_option maxRecDepth 100000 in
theorem replays_out (s : ByteArray) (n : Int) (w : World) (hs : s.size ≤ maxLen) (hno : ¬ (s.size ≤ 1048576 ∧ 0 < s.size ∧ 0 ≤ n ∧ n ≤ 65536)) :
    Calls Try.prog 3 #[.string s, .int .i64 n] w fun e w' => e = .returned (.bool true) ∧ Below w.heap.size w w' := by
  have C5 := hid (bytes5 s n w hs)
  unfold maxLen at hs
  by_cases h1 : s.size ≤ 1048576 ∧ 0 ≤ n ∧ n ≤ 65536
  · obtain ⟨h1, h2, h3⟩ := h1
    have h0 : s.size = 0 := by omega
    have he : s.toList.isEmpty = true := by
      rw [List.isEmpty_iff, ByteArray.toList_eq]
      exact List.eq_nil_of_length_eq_zero (by simpa using h0)
    clear hno hs h0
    go_enter Try.func3, Try.ntmps3
    go_wp2_with (go_at_call 5; refine C5.out.mono ?_; rintro e w1 ⟨⟨b, rfl⟩, hw⟩; rw [hw]; clear hw w1)
    all_goals (go_ret; exact ⟨rfl, Below.refl _ _⟩)
  · have HN := hid h1
    clear h1 hno
    go_enter Try.func3, Try.ntmps3
    go_wp2_with (go_at_call 5; refine C5.out.mono ?_; rintro e w1 ⟨⟨b, rfl⟩, hw⟩; rw [hw]; clear hw w1)
    all_goals try (go_ret; exact ⟨rfl, Below.refl _ _⟩)
    all_goals (exfalso; apply HN.out; omega)

end Go.Proofs.Qxb6600504a
