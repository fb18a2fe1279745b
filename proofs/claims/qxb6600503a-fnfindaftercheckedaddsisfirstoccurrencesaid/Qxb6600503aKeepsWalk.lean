/-
  FnAddKeepsEveryKeyInOrder (function 4): the walk.
-/
import Derived.Test.Qxb6600503aRead
import Derived.Deep.QuietTactic
import Derived.BigQuiet
import Derived.Lib.Builder
namespace Go.Proofs.Qxb6600503a
open Go.RowKit Go.Maps

section
variable {w w' : World} {base T : Nat} {ks : List Spot}

theorem Tab.grown_low {row : Option Nat} (h : Tab w base T ks) (hg : w.grownBy w' row) (hr : ∀ r, row = some r → r < base ∧ r ≠ T) : Tab w' base T ks := by
  obtain ⟨v, m, hT, h1, h2⟩ := h
  refine ⟨v, m, hT.grown hg ?_ ?_ ?_, h1, fun hl => ?_⟩
  · intro e; exact (hr T e.symm).2 rfl
  · cases hv : v.ownBlock with
    | none => exact Or.inl rfl
    | some b => exact Or.inr (fun e => by have := (hr b e.symm).1; have := (hT.row.lt b hv).1; omega)
  · intro k hk e
    have := (hr _ e.symm).1
    have := (hT.keys k hk).1
    omega
  · obtain ⟨B, n, e, hB, hn, hm⟩ := h2 hl
    exact ⟨B, n, e, hB, hn, hm.kept hg (fun e => by have := (hr _ e.symm).1; omega)⟩

theorem Tab.alloc (h : Tab w base T ks) (o : Obj) : Tab (w.alloc o) base T ks := h.grown_low (World.grownBy_alloc w o none) (by simp)
theorem Tab.drewN (h : Tab w base T ks) (n : Nat) : Tab (w.drewN n) base T ks := h.grown_low (row := none) ⟨rfl, rfl, rfl, Nat.le_refl _, fun _ _ _ => rfl⟩ (by simp)

theorem Tab.lt (h : Tab w base T ks) : T < base := h.choose_spec.choose_spec.1.lt
theorem Tab.size (h : Tab w base T ks) : base ≤ w.heap.size := h.choose_spec.choose_spec.1.size
theorem Tab.keys (h : Tab w base T ks) : ∀ k ∈ ks, base ≤ k.blk ∧ k.nm.size ≤ maxLen ∧ KeyAt w k := h.choose_spec.choose_spec.1.keys

theorem ownsRow_of_block {b e size g n cap : Nat} {xs : List Value} (h : w.ownsRow b e size (.slice (some ⟨g, 0, none⟩) n cap) n xs) (hb : w'.heap[g]? = w.heap[g]?) : w'.ownsRow b e size (.slice (some ⟨g, 0, none⟩) n cap) n xs := by
  obtain ⟨h1, hc⟩ := h
  refine ⟨h1, ?_⟩
  rcases hc with ⟨e, _⟩ | ⟨g', cap', cur, e, r1, r2, r3⟩
  · simp at e
  · simp only [Value.slice.injEq, Option.some.injEq, Addr.mk.injEq, and_true, true_and] at e
    obtain ⟨rfl, rfl⟩ := e
    exact Or.inr ⟨g, cap, cur, rfl, r1, hb.trans r2, r3⟩

/-- An empty table. -/
theorem tab_of_block (h : w.heap[T]? = some (.cells (spotCells 0 (.slice none 0 0) (.map none) ByteArray.empty) 42 (0, 0))) (hT : T < base) (hb : base ≤ w.heap.size) : Tab w base T [] :=
  ⟨.slice none 0 0, .map none, ⟨hT, hb, h, World.ownsRow_nil _ _ _ _, by simp⟩, fun _ => rfl, fun h => by simp at h⟩

theorem new_block {o : Obj} (h : w' = w.alloc o) : w'.heap[w.heap.size]? = some o ∧ w.heap.size < w'.heap.size ∧ Below w.heap.size w w' := by
  subst h
  exact ⟨heap_alloc_new w o, by simp, (Below.refl _ _).alloc (Nat.le_refl _) _⟩

/-- WHAT HOLDS AT EACH ROUND's HEAD: j keys have been added, ks; N0: the cloned names' block; T: the table's; Bk: the row of 'keys'. -/
structure KRel (w1 : World) (N0 T Bk len : Nat) (ss : List ByteArray) (j : Nat) (ks : List Spot) (wr : World) : Prop where
  cnt : ks.length = j
  ok : ∀ (i : Nat) k, ks[i]? = some k → k.nm = ss.getD i ByteArray.empty ∧ k.line = i
  low : N0 < T ∧ T < Bk
  tab : Tab wr (Bk + 1) T ks
  row : wr.ownsRow Bk 25 1 (.slice (some ⟨Bk, 0, none⟩) j len) j (ks.map fun k => ptr (some k.blk))
  names : Names wr N0 len ss
  below : Below T w1 wr

variable {w1 wr w4 w5 w6 : World} {N0 Bk len j : Nat} {ss : List ByteArray}

theorem KRel.newKey {s : ByteArray} {i : Int} (h : KRel w1 N0 T Bk len ss j ks wr) (hw : w4 = wr.alloc (.cells (spotCells i (.slice none 0 0) (.map none) s) 42)) :
    KRel w1 N0 T Bk len ss j ks w4 ∧ KeyAt w4 ⟨wr.heap.size, s, i⟩ ∧ Bk + 1 ≤ wr.heap.size := by
  subst hw
  have hsz := h.tab.size
  exact ⟨⟨h.cnt, h.ok, h.low, h.tab.alloc _, h.row.alloc _, h.names.below ((Below.refl T _).alloc (by have := h.low; omega) _) h.low.1, h.below.alloc (by have := h.low; omega) _⟩, heap_alloc_new wr _, hsz⟩

/-- Behind ZZAdd and the append to 'keys'. -/
theorem KRel.step {k : Spot} {o : Obj} (h : KRel w1 N0 T Bk len ss j ks w4) (hk1 : k.nm = ss.getD j ByteArray.empty) (hk2 : k.line = j) (ht : Tab w5 (Bk + 1) T (ks ++ [k])) (hK : KeptT (Bk + 1) T w4 w5)
    (hr : w6.ownsRow Bk 25 1 (.slice (some ⟨Bk, 0, none⟩) (j + 1) len) (j + 1) ((ks.map fun k => ptr (some k.blk)) ++ [ptr (some k.blk)])) (hg : (w5.alloc o).grownBy w6 (some Bk)) :
    KRel w1 N0 T Bk len ss (j + 1) (ks ++ [k]) w6 := by
  have hl := h.low
  have hb5 : Below T w4 w5 := hK.below (Nat.le_refl _) (by omega)
  have hb6 : Below T w4 w6 := (hb5.alloc (by have := ht.size; omega) o).grown hg (by have := ht.size; simp; omega) (fun k hk => by cases hk; omega)
  refine ⟨by simp [h.cnt], ?_, hl, (ht.alloc o).grown_low hg (fun r hr => by cases hr; omega), by simpa using hr, h.names.below hb6 hl.1, h.below.trans hb6⟩
  intro i k' hk'
  rw [List.getElem?_append] at hk'
  split at hk'
  · exact h.ok i k' hk'
  · have := h.cnt
    have hi : i - ks.length = 0 := by
      have := (List.getElem?_eq_some_iff.1 hk').1
      simp at this
      omega
    rw [hi] at hk'
    simp at hk'
    obtain rfl : i = j := by omega
    subst hk'
    exact ⟨hk1, hk2⟩

theorem KRel.drewN (h : KRel w1 N0 T Bk len ss j ks wr) (n : Nat) : KRel w1 N0 T Bk len ss j ks (wr.drewN n) :=
  ⟨h.cnt, h.ok, h.low, h.tab.drewN n, h.row, ⟨h.names.lt, h.names.cell⟩, below_drewN h.below n⟩

theorem zzLenN (base T : Nat) (ks : List Spot) (n : Nat) (w : World) (h : Tab w base T ks) (hn : ks.length = n) : Calls Try.prog 14 #[ptr (some T)] w fun e w' => e = .returned (.int .i64 n) ∧ w' = w := by
  subst hn; exact zzLen base T ks w h

end

theorem Try.info42 : (Try.prog.info? 42).map (fun i => i.size) = some 9 := by kernel_rfl
theorem same25 (a : Addr) (w : World) : (binOp .neq 25 (.pointer (some a)) (.pointer (some a))).run Try.prog w = .ok (.bool false) w := by
  obtain ⟨i, hi, _⟩ := Option.map_eq_some_iff.1 Try.info42
  exact Lib.run_neq_ptr_same w a Try.underlying25 hi

set_option maxHeartbeats 1000000 in
set_option maxRecDepth 100000 in
theorem keeps_some (ad : Addr) (len cap : Nat) (ss : List ByteArray) (w : World) (hm : len * 16 ≤ 140737488351232)
    (hs : Strs w (some ad) len cap ss) (hsz : ∀ k, k < len → (ss.getD k ByteArray.empty).size ≤ maxLen) :
    Calls Try.prog 4 #[.slice (some ad) len cap] w fun e w' => e = .returned (.bool true) ∧ Below w.heap.size w w' := by
  have C19 := hid (bytes19 (some ad) len cap ss w (by omega) hs)
  have C7 := hid (over7 (some ad) none len cap 0 0 ss [] w (by omega) (by omega) hs ⟨fun _ => ⟨rfl, rfl⟩, by simp⟩)
  have C8 := hid (clone_some ad len cap ss w hm (hs.cell ad rfl))
  clear hs
  go_enter Try.func4, Try.ntmps4
  obtain ⟨i0, hi, hz0, hz1, hz2⟩ := info_parts Try.info25
  have hpp := same25
  go_wp2_with (first
    | (go_at_call 19; refine C19.out.mono ?_; rintro e w1 ⟨⟨b, rfl⟩, hw⟩; rw [hw]; clear hw w1)
    | (go_at_call 7; refine C7.out.mono ?_; rintro e w1 ⟨⟨b1, rfl⟩, hw⟩; rw [hw]; clear hw w1)
    | (go_at_call 8; refine C8.out.mono ?_; rintro e w1 ⟨rfl, hN, hB⟩)
    | (go_at_call 9; refine (newTable _).mono ?_; rintro e w2 ⟨rfl, hw2⟩; have hT2 := new_block hw2; clear hw2)
    | (at_make; refine wpList_make_own _ rfl _ _ 36 rfl w2.heap.size 25 i0 (.pointer none) 1 Try.underlying36 hi hz0 hz1 _ _ _ len rfl rfl rfl ?b2 ?b3 ?b4 ?_))
  all_goals try (go_ret; exact ⟨rfl, Below.refl _ _⟩)
  case b2 => rw [hz2]; omega
  case b3 => unfold maxLen; omega
  case b4 => exact Nat.le_refl _
  intro w3 hk3 hg3
  obtain ⟨h2T, h2s, h2B⟩ := hT2
  have hN2 := hN.below (C := w1.heap.size) h2B hN.lt
  have hB2 : Below w.heap.size w w2 := hB.trans (h2B.mono hB.size)
  have hlen : len ≤ 65536 := by omega
  have R0 : KRel w1 w.heap.size w1.heap.size w2.heap.size len ss 0 [] w3 := by
    have hb3 : Below w2.heap.size w2 w3 := (Below.refl _ _).grown hg3 (Nat.le_refl _) (by simp)
    have hlt3 : w2.heap.size + 1 ≤ w3.heap.size := (hk3.lt w2.heap.size rfl).2
    refine ⟨rfl, by simp, ⟨hN.lt, h2s⟩, tab_of_block ((hb3.block _ h2s).trans h2T) (by omega) hlt3, hk3, hN2.below hb3 (by have := hN.lt; omega), h2B.trans (hb3.mono (by omega))⟩
  have HB := hid hB
  have H0 := hid R0
  clear R0 hk3 hg3 hN2 hB2 hN hB h2T h2B C7 C8 C19
  go_wp2
  go_loopw [4, 5] (fun kv i wr => ∃ (j : Nat) (ks : List Spot), j ≤ len ∧ i = .int .i64 j ∧ kv = .slice (some ⟨w2.heap.size, 0, none⟩) j len ∧ KRel w1 w.heap.size w1.heap.size w2.heap.size len ss j ks wr)
    (fun _ i _ => len - (intOf i).toNat)
  case atStart => exact ⟨0, [], Nat.zero_le _, rfl, rfl, H0.out⟩
  case round =>
    obtain ⟨j, ks, hj, rfl, rfl, hR⟩ := hrel
    clear H0
    by_cases hlt : j < len
    · obtain ⟨s, hs⟩ : ∃ s, s = ss.getD j ByteArray.empty := ⟨_, rfl⟩
      have hcj : wr.cell? ⟨w.heap.size, j, none⟩ = some (.string s) := by rw [hs]; exact hR.names.cell j hlt
      have hsl : s.size ≤ maxLen := by rw [hs]; exact hsz j hlt
      have HS := hid hs
      have HR := hid hR
      clear hs hR
      go_wp2_with (first
        | (go_at_call 12; refine (newKey _ _ _).mono ?_; rintro e w4 ⟨rfl, hw4⟩; have hN4 := HR.out.newKey hw4; clear hw4))
      obtain ⟨hR4, hK4, hb4⟩ := hN4
      have hlow := hR4.low
      have C11 := zzAdd (w2.heap.size + 1) w1.heap.size ks ⟨wr.heap.size, s, j⟩ w4 hR4.tab ⟨hb4, hsl, hK4⟩ (by have := hR4.cnt; omega)
      refine C11.mono ?_
      rintro e w5 ⟨rfl, hT5, hKp⟩
      have hrow5 : w5.ownsRow w2.heap.size 25 1 (.slice (some ⟨w2.heap.size, 0, none⟩) j len) j (ks.map fun k => ptr (some k.blk)) := ownsRow_of_block hR4.row (hKp.block _ (by omega) (by omega))
      have H4 := hid hR4
      have HT5 := hid hT5
      have HKp := hid hKp
      clear C11 hR4 hT5 hKp hK4 HR hcj
      go_wp2_with (at_builtin; refine wpList_append_fits _ rfl _ _ 36 rfl w2.heap.size 25 i0 1 Try.underlying36 hi hz1 w2.heap.size j len _ rfl (hrow5.alloc _) ⟨w5.heap.size, 0, none⟩ 1 1 [ptr (some wr.heap.size)] rfl rfl ?c1 ?c2 (by omega) ?_)
      case c1 =>
        intro j u hj
        match j, hj with
        | 0, hj => simp [ptr] at hj; subst hj; simp [Addr.add]
      case c2 => intro u hu; simp [ptr] at hu; subst hu; rfl
      intro w6 hr6 hg6
      have R6 := H4.out.step (k := ⟨wr.heap.size, s, j⟩) HS.out rfl HT5.out HKp.out hr6 hg6
      have C14 := hid (zzLenN _ _ _ (j + 1) _ R6.tab R6.cnt)
      have H6 := hid R6
      clear R6 hr6 hg6 H4 HT5 HKp hrow5
      go_wp2_with (go_at_call 14; refine C14.out.mono ?_; rintro e w7 ⟨rfl, hw⟩; rw [hw]; clear hw w7)
      go_roundw
      case rel => exact ⟨j + 1, _, by omega, by go_num, rfl, H6.out⟩
      case measure => simp [intOf]; omega
    · have hjl : j = len := by omega
      subst hjl
      have HR := hid hR
      clear hR hsz
      go_wp2
      go_loopw [7] (fun i wr => ∃ q : Nat, q ≤ j ∧ i = .int .i64 q ∧ KRel w1 w.heap.size w1.heap.size w2.heap.size j ss j ks wr)
        (fun i _ => j - (intOf i).toNat)
      case atStart => exact ⟨0, Nat.zero_le _, rfl, HR.out⟩
      case round =>
        obtain ⟨q, hq, rfl, hR⟩ := hrel
        clear HR
        by_cases hlt : q < j
        · have hkq : ks[q]? = some (ks[q]'(by have := hR.cnt; omega)) := List.getElem?_eq_getElem _
          generalize ks[q]'(by have := hR.cnt; omega) = k at hkq
          obtain ⟨hk1, hk2⟩ := hR.ok q k hkq
          obtain ⟨kb, s, ln⟩ := k
          simp only at hk1 hk2
          subst hk2
          have hcq : wr.cell? ⟨w.heap.size, q, none⟩ = some (.string s) := by rw [hk1]; exact hR.names.cell q hlt
          have hrq : wr.cell? ⟨w2.heap.size, q, none⟩ = some (.pointer (some ⟨kb, 0, none⟩)) := by
            rw [hR.row.cellAt q (by omega), List.getElem?_map, hkq]; rfl
          have hKA : KeyAt wr ⟨kb, s, q⟩ := (hR.tab.keys _ (List.mem_of_getElem? hkq)).2.2
          have C15 := fun n => zzAt (w2.heap.size + 1) w1.heap.size ks q ⟨kb, s, q⟩ (wr.drewN n) (hR.tab.drewN n) hkq (by have := hR.cnt; omega)
          have C16 := fun n => zzLine ⟨kb, s, q⟩ (wr.drewN n) (show KeyAt (wr.drewN n) _ from hKA)
          have C17 := fun n => zzName ⟨kb, s, q⟩ (wr.drewN n) (show KeyAt (wr.drewN n) _ from hKA)
          have H15 := hid C15
          have H16 := hid C16
          have H17 := hid C17
          have HR := hid hR
          clear hR hkq hk1 hKA C15 C16 C17
          go_wp2
          go_quiet ((go_at_call 15; exact Calls.quiet_of_same (H15.out _)))
          go_wp2
          go_quiet ((first | (go_at_call 17; exact (H17.out _).mono fun e w' hh => ⟨hh.1, _, hh.2⟩) | (go_at_call 16; exact (H16.out _).mono fun e w' hh => ⟨hh.1, _, hh.2⟩)))
          go_wp2
          go_roundw
          case rel => exact ⟨q + 1, by omega, by go_num, HR.out.drewN _⟩
          case measure => simp [intOf]; omega
        · have HB2 := hid (HB.out.trans (hR.below.mono (by have := hR.low; omega)))
          clear hR
          go_wp2
          go_ret
          exact ⟨rfl, HB2.out⟩

set_option maxHeartbeats 1000000 in
set_option maxRecDepth 100000 in
theorem keeps_nil (w : World) : Calls Try.prog 4 #[.slice none 0 0] w fun e w' => e = .returned (.bool true) ∧ Below w.heap.size w w' := by
  have hs : Strs w none 0 0 [] := ⟨fun _ => ⟨rfl, rfl⟩, by simp⟩
  have C19 := hid (bytes19 none 0 0 [] w (by omega) hs)
  have C7 := hid (over7 none none 0 0 0 0 [] [] w (by omega) (by omega) hs hs)
  have C8 := hid (clone_nil w)
  clear hs
  obtain ⟨i0, hi, hz0, hz1, hz2⟩ := info_parts Try.info25
  go_enter Try.func4, Try.ntmps4
  go_wp2_with (first
    | (go_at_call 19; refine C19.out.mono ?_; rintro e w1 ⟨⟨b, rfl⟩, hw⟩; rw [hw]; clear hw w1)
    | (go_at_call 7; refine C7.out.mono ?_; rintro e w1 ⟨⟨b1, rfl⟩, hw⟩; rw [hw]; clear hw w1)
    | (go_at_call 8; refine C8.out.mono ?_; rintro e w1 ⟨rfl, hw⟩; rw [hw]; clear hw w1)
    | (go_at_call 9; refine (newTable _).mono ?_; rintro e w2 ⟨rfl, hw2⟩; have hT2 := new_block hw2; clear hw2)
    | (at_make; refine wpList_make_own _ rfl _ _ 36 rfl w2.heap.size 25 i0 (.pointer none) 1 Try.underlying36 hi hz0 hz1 _ _ _ 0 rfl rfl rfl ?b2 ?b3 ?b4 ?_))
  all_goals try (go_ret; exact ⟨rfl, Below.refl _ _⟩)
  case b2 => omega
  case b3 => unfold maxLen; omega
  case b4 => exact Nat.le_refl _
  intro w3 _ hg3
  have hB : Below w.heap.size w w3 := (hT2.2.2).grown hg3 (by have := hT2.2.1; omega) (by simp)
  clear C19 C7 C8 hg3 hT2
  go_wp2
  refine wp_loop_rounds 1 ?_
  rw [rounds_succ]
  go_wp2
  refine wp_loop_rounds 1 ?_
  rw [rounds_succ]
  go_wp2
  go_ret
  exact ⟨rfl, hB⟩

end Go.Proofs.Qxb6600503a
