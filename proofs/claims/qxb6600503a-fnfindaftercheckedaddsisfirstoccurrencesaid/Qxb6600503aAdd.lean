/-
  (*spot).add (function 22) and the small functions around it (9, 11, 12, 14 .. 17).
-/
import Derived.Test.Qxb6600503aTab
namespace Go.Proofs.Qxb6600503a
open Go.RowKit Go.Maps

set_option maxRecDepth 100000 in
theorem newTable (w : World) : Calls Try.prog 9 #[] w fun e w' => e = .returned (.pointer (some ⟨w.heap.size, 0, none⟩)) ∧ w' = w.alloc (.cells (spotCells 0 (.slice none 0 0) (.map none) ByteArray.empty) 42) := by
  go_enter Try.func9, Try.ntmps9
  go_wp2
  go_ret
  exact ⟨rfl, rfl⟩

set_option maxRecDepth 100000 in
theorem newKey (s : ByteArray) (i : Int) (w : World) : Calls Try.prog 12 #[.string s, .int .i64 i] w fun e w' => e = .returned (.pointer (some ⟨w.heap.size, 0, none⟩)) ∧ w' = w.alloc (.cells (spotCells i (.slice none 0 0) (.map none) s) 42) := by
  go_enter Try.func12, Try.ntmps12
  go_wp2
  go_ret
  exact ⟨rfl, rfl⟩

set_option maxHeartbeats 400000 in
set_option maxRecDepth 100000 in
theorem addA (base T : Nat) (ks : List Spot) (k : Spot) (v : Value) (w : World) (h : TabM w base T ks v (.map none)) (hk : base ≤ k.blk ∧ k.nm.size ≤ maxLen ∧ KeyAt w k) (hlen : ks.length < 16) :
    Calls Try.prog 22 #[ptr (some T), ptr (some k.blk)] w fun e w' => e = .returned (.tuple #[]) ∧ (∃ v', TabM w' base T (ks ++ [k]) v' (.map none)) ∧ KeptT base T w w' := by
  have hq := fun (w : World) (r : Option Nat) => run_neq_map_nil (P := Try.prog) w 40 9 25 r Try.underlying40
  have c4 := h.cell4
  have c5 := h.cell5
  have f4 := h.frz 4
  have hsz := h.size
  obtain ⟨i, hi, hz0, hz1, hz2⟩ := info_parts Try.info25
  unfold ptr
  go_enter Try.func22, Try.ntmps22
  go_wp2_with (at_builtin; refine wpList_append_own _ rfl (.tmp 10) (.tmp 12) 36 rfl base 25 i (.pointer none) 1 8 Try.underlying36 hi hz0 hz1 hz2 rfl (by decide) v ks.length _ rfl (h.row.alloc _) ⟨w.heap.size, 0, none⟩ 1 1 [ptr (some k.blk)] rfl rfl ?c1 ?c2 ?c3 ?c4 ?c5 ?_)
  case c1 =>
    intro j u hj
    match j, hj with
    | 0, hj => simp [ptr] at hj; subst hj; simp [Addr.add]
  case c2 => intro u hu; simp [ptr] at hu; subst hu; rfl
  case c3 => unfold maxLen; omega
  case c4 => omega
  case c5 => simp; omega
  intro v' w1 hown hgrow _
  obtain ⟨hT, hK⟩ := h.push hk hown hgrow
  obtain ⟨d4, d5, e4, e5⟩ := cells_of_block (h.block1 hgrow)
  obtain ⟨g', cap', hv'⟩ := hT.shape_pos (by simp)
  rw [hv'] at hT hK ⊢
  simp only [List.length_append, List.length_cons, List.length_nil, Nat.zero_add] at hT hK ⊢
  have HT := hid hT
  have HK := hid hK
  clear hT hK hown hgrow h hk c4 c5 f4 hv'
  go_wp2
  go_end0
  exact ⟨rfl, ⟨_, HT.out⟩, HK.out⟩

/-- 'sp.byName[k.name] = k': what the store into the map leaves. -/
theorem mapStore {base T B n : Nat} {ks js : List Spot} {v : Value} {k : Spot} {w : World} (h : TabM w base T ks v (.map (some B))) (hB : base ≤ B) (hmap : w.ownsMap Try.prog 9 ptrElem B n (byNameOf js)) (hn : n < maxLen) (hk : k.nm.size ≤ maxLen) :
    ∃ w', (Instr.mapUpdate 40 (.map (some B)) (.string k.nm) (.pointer (some ⟨k.blk, 0, none⟩))).run Try.prog w = .ok () w' ∧ TabM w' base T ks v (.map (some B)) ∧ w'.ownsMap Try.prog 9 ptrElem B (n + 1) (byNameOf (js ++ [k])) ∧ KeptT base T w w' := by
  obtain ⟨w', hrun, hown, hg⟩ := hmap.update law9 Try.underlying40 hn (WideMaps.keyOf_string_mk Try.underlying9 hk) (ptrElem_ptr (some k.blk))
  refine ⟨w', hrun, h.grown hg ?_ ?_ ?_, by rw [byNameOf_snoc]; exact hown, KeptT.grown hg h.size (fun j hj => by cases hj; exact hB)⟩
  · intro e; cases e; have := h.lt; omega
  · exact Or.inr (row_ne_map h.row hmap)
  · intro k' hk' e
    exact (h.keys k' hk').2.2.ne_map hmap (by simpa using e)

set_option maxHeartbeats 400000 in
set_option maxRecDepth 100000 in
theorem addC (base T B n : Nat) (ks : List Spot) (k : Spot) (v : Value) (w : World) (h : TabM w base T ks v (.map (some B))) (hk : base ≤ k.blk ∧ k.nm.size ≤ maxLen ∧ KeyAt w k) (hlen : ks.length ≤ 100000)
    (hB : base ≤ B) (hn : n ≤ ks.length) (hmap : w.ownsMap Try.prog 9 ptrElem B n (byNameOf ks)) :
    Calls Try.prog 22 #[ptr (some T), ptr (some k.blk)] w fun e w' => e = .returned (.tuple #[]) ∧ (∃ v', TabM w' base T (ks ++ [k]) v' (.map (some B)) ∧ w'.ownsMap Try.prog 9 ptrElem B (n + 1) (byNameOf (ks ++ [k]))) ∧ KeptT base T w w' := by
  have hq := fun (w : World) (r : Option Nat) => run_neq_map_nil (P := Try.prog) w 40 9 25 r Try.underlying40
  have c4 := h.cell4
  have hsz := h.size
  obtain ⟨i, hi, hz0, hz1, hz2⟩ := info_parts Try.info25
  unfold ptr
  go_enter Try.func22, Try.ntmps22
  go_wp2_with (at_builtin; refine wpList_append_own _ rfl (.tmp 10) (.tmp 12) 36 rfl base 25 i (.pointer none) 1 8 Try.underlying36 hi hz0 hz1 hz2 rfl (by decide) v ks.length _ rfl (h.row.alloc _) ⟨w.heap.size, 0, none⟩ 1 1 [ptr (some k.blk)] rfl rfl ?c1 ?c2 ?c3 ?c4 ?c5 ?_)
  case c1 =>
    intro j u hj
    match j, hj with
    | 0, hj => simp [ptr] at hj; subst hj; simp [Addr.add]
  case c2 => intro u hu; simp [ptr] at hu; subst hu; rfl
  case c3 => unfold maxLen; omega
  case c4 => omega
  case c5 => simp; omega
  intro v' w1 hown hgrow _
  obtain ⟨hT, hK⟩ := h.push hk hown hgrow
  obtain ⟨d4, d5, e4, e5⟩ := cells_of_block (h.block1 hgrow)
  have hm1 : (w1.setCell ⟨T, 4, none⟩ v').ownsMap Try.prog 9 ptrElem B n (byNameOf ks) :=
    ownsMap_setCell ((hmap.alloc _).kept hgrow (fun e => row_ne_map h.row hmap e.symm)) (by have := h.lt; show B ≠ T; omega) v'
  obtain ⟨g', cap', hv'⟩ := hT.shape_pos (by simp)
  rw [hv'] at hT hK hm1 ⊢
  simp only [List.length_append, List.length_cons, List.length_nil, Nat.zero_add] at hT hK hm1 ⊢
  have HT := hid hT
  have HK := hid hK
  have HM := hid hm1
  clear hT hK hm1 hown hgrow h c4 hv' hmap
  go_wp2
  obtain ⟨w2, hw2⟩ : ∃ w2, w2 = w1.setCell ⟨T, 4, none⟩ (.slice (some ⟨g', 0, none⟩) (ks.length + 1) cap') := ⟨_, rfl⟩
  rw [← hw2] at HT HK HM ⊢
  clear hw2 d4 d5 e4 e5
  obtain ⟨d4, d5, e4, e5⟩ := cells_of_block HT.out.block
  have hkey : KeyAt w2 k := (HT.out.keys k (by simp)).2.2
  have d7 := hkey.name
  obtain ⟨w3, hrun, hT3, hM3, hK3⟩ := mapStore (k := k) HT.out.drew hB HM.out.drew (by unfold maxLen; omega) hk.2.1
  have HT3 := hid hT3
  have HM3 := hid hM3
  have HK3 := hid hK3
  clear hT3 hM3 hK3 hkey hk
  go_region
  go_wp2
  go_end0
  exact ⟨rfl, ⟨_, HT3.out, HM3.out⟩, HK.out.trans HK3.out.undrew⟩

theorem makeMap_hint (w : World) (k : IntKind) (n : Int) : (Instr.makeMap 40 (some (.int k n))).run Try.prog w = .ok (.map (some w.heap.size)) (w.alloc (.map #[] 0)) := by
  simp [Instr.makeMap, run_underlying Try.underlying40, asInt, asIntOf, Result.andThen]

set_option maxHeartbeats 1000000 in
set_option maxRecDepth 100000 in
theorem addB (base T : Nat) (ks : List Spot) (k : Spot) (v : Value) (w : World) (h : TabM w base T ks v (.map none)) (hk : base ≤ k.blk ∧ k.nm.size ≤ maxLen ∧ KeyAt w k) (hlen : ks.length < 17) (hlen' : 15 < ks.length) :
    Calls Try.prog 22 #[ptr (some T), ptr (some k.blk)] w fun e w' => e = .returned (.tuple #[]) ∧ (∃ v' B, base ≤ B ∧ TabM w' base T (ks ++ [k]) v' (.map (some B)) ∧ w'.ownsMap Try.prog 9 ptrElem B (ks ++ [k]).length (byNameOf (ks ++ [k]))) ∧ KeptT base T w w' := by
  have hmm := makeMap_hint
  have hq := fun (w : World) (r : Option Nat) => run_neq_map_nil (P := Try.prog) w 40 9 25 r Try.underlying40
  have c4 := h.cell4
  have hsz := h.size
  obtain ⟨i, hi, hz0, hz1, hz2⟩ := info_parts Try.info25
  unfold ptr
  go_enter Try.func22, Try.ntmps22
  go_wp2_with (at_builtin; refine wpList_append_own _ rfl (.tmp 10) (.tmp 12) 36 rfl base 25 i (.pointer none) 1 8 Try.underlying36 hi hz0 hz1 hz2 rfl (by decide) v ks.length _ rfl (h.row.alloc _) ⟨w.heap.size, 0, none⟩ 1 1 [ptr (some k.blk)] rfl rfl ?c1 ?c2 ?c3 ?c4 ?c5 ?_)
  case c1 =>
    intro j u hj
    match j, hj with
    | 0, hj => simp [ptr] at hj; subst hj; simp [Addr.add]
  case c2 => intro u hu; simp [ptr] at hu; subst hu; rfl
  case c3 => unfold maxLen; omega
  case c4 => omega
  case c5 => simp; omega
  intro v' w1 hown hgrow _
  obtain ⟨hT, hK⟩ := h.push hk hown hgrow
  obtain ⟨d4, d5, e4, e5⟩ := cells_of_block (h.block1 hgrow)
  obtain ⟨g', cap', hv'⟩ := hT.shape_pos (by simp)
  rw [hv'] at hT hK ⊢
  simp only [List.length_append, List.length_cons, List.length_nil, Nat.zero_add] at hT hK ⊢
  have HT := hid hT
  have HK := hid hK
  have hTs : T < w1.heap.size := by have := hT.lt; have := hT.size; simp at this; omega
  clear hT hK hown hgrow h c4 hv' hk
  have h0 : ∃ js : List Spot, js = ks ++ [k] := ⟨_, rfl⟩
  obtain ⟨js, hjs⟩ := h0
  have hjl : js.length = ks.length + 1 := by rw [hjs]; simp
  rw [← hjs] at HT
  have S1 := hid ((HT.out.set5 (.map (some w1.heap.size))).alloc (.map #[] 0))
  have S2 : Hid ((((w1.setCell ⟨T, 4, none⟩ (.slice (some ⟨g', 0, none⟩) (ks.length + 1) cap')).setCell ⟨T, 5, none⟩ (.map (some w1.heap.size))).alloc (.map #[] 0)).ownsMap Try.prog 9 ptrElem w1.heap.size 0 (byNameOf (js.take 0))) := by
    refine hid ?_
    have := World.ownsMap_made ((w1.setCell ⟨T, 4, none⟩ (.slice (some ⟨g', 0, none⟩) (ks.length + 1) cap')).setCell ⟨T, 5, none⟩ (.map (some w1.heap.size))) Try.prog 9 ptrElem
    simpa [byNameOf] using this
  have S3 := hid (HK.out.trans ((KeptT.setCell (base := base) (T := T) (p := ⟨T, 5, none⟩) (w1.setCell ⟨T, 4, none⟩ (.slice (some ⟨g', 0, none⟩) (ks.length + 1) cap')) rfl (.map (some w1.heap.size))).trans (KeptT.grown (World.grownBy_alloc _ (.map #[] 0) none) (by have := HT.out.size; simp at this; simp; omega) (by simp))))
  have hBb : base ≤ w1.heap.size := by have := HT.out.size; simp at this; omega
  have HJ := hid hjs
  have HL := hid hjl
  have hjl1 : js.length ≤ 17 := by omega
  have hjl2 : ks.length + 1 ≤ js.length := by omega
  clear hjs hjl HT HK
  go_wp2
  go_loopw [53] (fun i wr => ∃ j : Nat, j ≤ js.length ∧ i = .int .i64 j ∧ TabM wr base T js (.slice (some ⟨g', 0, none⟩) (ks.length + 1) cap') (.map (some w1.heap.size)) ∧ wr.ownsMap Try.prog 9 ptrElem w1.heap.size j (byNameOf (js.take j)) ∧ KeptT base T w wr)
    (fun i _ => js.length - (intOf i).toNat)
  case atStart => exact ⟨0, Nat.zero_le _, rfl, S1.out, S2.out, S3.out⟩
  case round =>
    obtain ⟨j, hj, rfl, hT, hM, hK⟩ := hrel
    clear S1 S2 S3 d4 d5 e4 e5
    by_cases hlt : j < js.length
    · have hkj : js[j]? = some js[j] := List.getElem?_eq_getElem hlt
      have hkk := hT.keys js[j] (List.getElem_mem hlt)
      have d1 := hT.cellAt j _ hkj
      unfold ptr at d1
      simp only [Option.map_some] at d1
      have d5 := hT.cell5
      have d7 := hkk.2.2.name
      obtain ⟨w3, hrun, hT3, hM3, hK3⟩ := mapStore (k := js[j]) hT.drew hBb hM.drew (by unfold maxLen; omega) hkk.2.1
      have e1 : js.take j ++ [js[j]] = js.take (j + 1) := by rw [List.take_succ_eq_append_getElem hlt]
      rw [e1] at hM3
      have HT3 := hid hT3
      have HM3 := hid hM3
      have HK3 := hid hK3
      have HK0 := hid hK
      have hjk : j < ks.length + 1 := by have := HL.out; omega
      generalize js[j] = kj at *
      clear hT hM hK hT3 hM3 hK3 hkk hkj e1
      go_wp2
      go_region
      go_wp2
      go_roundw
      case rel => exact ⟨j + 1, by omega, by go_num, HT3.out, HM3.out, HK0.out.trans HK3.out.undrew⟩
      case measure => simp [intOf]; omega
    · have hjj : ¬ j < ks.length + 1 := by have := HL.out; omega
      have hM2 : wr.ownsMap Try.prog 9 ptrElem w1.heap.size js.length (byNameOf js) := by
        rw [List.take_of_length_le (by omega)] at hM
        exact hM.mono hj
      have HT3 := hid hT
      have HM3 := hid hM2
      have HK3 := hid hK
      clear hT hM hM2 hK
      go_wp2
      go_end0
      rw [← HJ.out]
      exact ⟨rfl, ⟨_, _, hBb, HT3.out, HM3.out⟩, HK3.out⟩

/-- (*spot).add, WHATEVER THE TABLE. -/
theorem add_any (base T : Nat) (ks : List Spot) (k : Spot) (w : World) (h : Tab w base T ks) (hk : base ≤ k.blk ∧ k.nm.size ≤ maxLen ∧ KeyAt w k) (hlen : ks.length ≤ 100000) :
    Calls Try.prog 22 #[ptr (some T), ptr (some k.blk)] w fun e w' => e = .returned (.tuple #[]) ∧ Tab w' base T (ks ++ [k]) ∧ KeptT base T w w' := by
  obtain ⟨v, m, hT, h1, h2⟩ := h
  by_cases hl : ks.length < 16
  · obtain rfl := h1 (by omega)
    exact (addA base T ks k v w hT hk hl).mono fun e w' ⟨he, ⟨v', hv'⟩, hK⟩ => ⟨he, ⟨v', _, hv', fun _ => rfl, fun hh => by simp at hh; omega⟩, hK⟩
  · by_cases hl2 : ks.length < 17
    · obtain rfl := h1 (by omega)
      exact (addB base T ks k v w hT hk hl2 (by omega)).mono fun e w' ⟨he, ⟨v', B, hB, hv', hm⟩, hK⟩ => ⟨he, ⟨v', _, hv', fun hh => by simp at hh; omega, fun _ => ⟨B, _, rfl, hB, Nat.le_refl _, hm⟩⟩, hK⟩
    · obtain ⟨B, n, rfl, hB, hn, hm⟩ := h2 (by omega)
      exact (addC base T B n ks k v w hT hk hlen hB hn hm).mono fun e w' ⟨he, ⟨v', hv', hm'⟩, hK⟩ => ⟨he, ⟨v', _, hv', fun hh => by simp at hh; omega, fun _ => ⟨B, _, rfl, hB, by simp; omega, hm'⟩⟩, hK⟩

set_option maxRecDepth 100000 in
theorem zzAdd (base T : Nat) (ks : List Spot) (k : Spot) (w : World) (h : Tab w base T ks) (hk : base ≤ k.blk ∧ k.nm.size ≤ maxLen ∧ KeyAt w k) (hlen : ks.length ≤ 100000) :
    Calls Try.prog 11 #[ptr (some T), ptr (some k.blk)] w fun e w' => e = .returned (.tuple #[]) ∧ Tab w' base T (ks ++ [k]) ∧ KeptT base T w w' := by
  have C := add_any base T ks k w h hk hlen
  have HC := hid C
  clear C h hk hlen
  go_enter Try.func11, Try.ntmps11
  go_wp2_with (go_at_call 22; refine HC.out.mono ?_; rintro e w' ⟨rfl, hT, hK⟩)
  go_end0
  exact ⟨rfl, hT, hK⟩

end Go.Proofs.Qxb6600503a
