/-
  FnFindAfterAnyAddsFirstThenLast (function 5): the walk.
-/
import Derived.Test.Qxb6600503aFindsAt
import Derived.Test.Qxb6600503aKeepsWalk
namespace Go.Proofs.Qxb6600503a
open Go.RowKit Go.Maps

theorem NamesV.below {w w' : World} {C : Nat} {v : Value} {ns : List ByteArray} (h : NamesV w v ns) (hb : Below C w w') (hC : w.heap.size ≤ C) : NamesV w' v ns := by
  rcases h with h | ⟨B, rfl, hN⟩
  · exact Or.inl h
  · exact Or.inr ⟨B, rfl, hN.below hb (by have := hN.lt; omega)⟩

theorem getD_take (ss : List ByteArray) (len k : Nat) (hk : k < len) : (ss.take len).getD k ByteArray.empty = ss.getD k ByteArray.empty := by
  simp [hk]

/-- It returned a copy of ns. -/
def RetNames (w' : World) (ns : List ByteArray) (e : Ending) : Prop := ∃ v, e = .returned v ∧ NamesV w' v ns

/-- zzTomlB1Clone, whatever the slice. -/
theorem clone8 (a : Option Addr) (len cap : Nat) (ns : List ByteArray) (w : World) (hn : ns.length = len) (hm : len * 16 ≤ 140737488351232) (hs : Strs w a len cap ns) :
    Calls Try.prog 8 #[.slice a len cap] w fun e w' => RetNames w' ns e ∧ Below w.heap.size w w' := by
  subst hn
  cases a with
  | none =>
    obtain ⟨h1, rfl⟩ := hs.nil rfl
    obtain rfl : ns = [] := List.eq_nil_of_length_eq_zero h1
    exact (clone_nil w).mono fun e w' ⟨he, hw⟩ => by subst hw; exact ⟨⟨_, he, Or.inl ⟨rfl, rfl⟩⟩, Below.refl _ _⟩
  | some ad => exact (clone_some ad ns.length cap ns w hm (hs.cell ad rfl)).mono fun e w' ⟨he, hN, hB⟩ => ⟨⟨_, he, Or.inr ⟨_, rfl, hN⟩⟩, hB⟩

theorem Strs.below {w w' : World} {a : Option Addr} {len cap : Nat} {ss : List ByteArray} (h : Strs w a len cap ss) (hb : Below w.heap.size w w') : Strs w' a len cap ss :=
  ⟨h.nil, fun ad ha k hk => by
    have h1 := h.cell ad ha k hk
    exact (hb.cell (World.block_lt_of_cell? w _ h1)).trans h1⟩

/-- The keys ks are those of the names ns, each at its own place. -/
def KeysOk (ks : List Spot) (ns : List ByteArray) : Prop := ∀ (i : Nat) k, ks[i]? = some k → ns[i]? = some k.nm ∧ k.line = i

theorem KeysOk.snoc {ks : List Spot} {ns : List ByteArray} (h : KeysOk ks ns) {k : Spot} (h1 : ns[ks.length]? = some k.nm) (h2 : k.line = ks.length) : KeysOk (ks ++ [k]) ns := by
  intro i k' hk'
  rw [List.getElem?_append] at hk'
  split at hk'
  · exact h i k' hk'
  · have hi : i - ks.length = 0 := by
      have := (List.getElem?_eq_some_iff.1 hk').1
      simp at this
      omega
    rw [hi] at hk'
    simp at hk'
    obtain rfl : i = ks.length := by omega
    subst hk'
    exact ⟨h1, h2⟩

theorem KeysOk.names {ks : List Spot} {ns : List ByteArray} (h : KeysOk ks ns) (hl : ks.length = ns.length) : ks.map (·.nm) = ns := by
  apply List.ext_getElem?
  intro i
  rw [List.getElem?_map]
  cases hk : ks[i]? with
  | some k => rw [(h i k hk).1]; rfl
  | none =>
    have := List.getElem?_eq_none_iff.1 hk
    rw [List.getElem?_eq_none (by omega)]
    rfl

theorem agree_any {ks : List Spot} {ns : List ByteArray} (h : KeysOk ks ns) (hl : ks.length = ns.length) : Agree ns ks (decide (16 < (ns.length : Int))) := by
  intro q o f ho ⟨o', h1, h2, hf⟩
  rw [h.names hl] at h1 h2
  have e : o = o' := by
    by_cases hc : 16 < ns.length
    · rw [if_pos (by simp; omega)] at ho
      exact ho.uniq (h2 (by omega))
    · rw [if_neg (by simp; omega)] at ho
      exact ho.uniq (h1 (by omega))
  subst e
  cases o with
  | none => exact Or.inl ⟨rfl, hf⟩
  | some i =>
    simp only [Option.bind_some] at hf
    have hns : ns[i]? = some q := by
      split at ho <;> exact ho.1
    have hi : i < ks.length := by have := (List.getElem?_eq_some_iff.1 hns).1; omega
    rw [List.getElem?_eq_getElem hi] at hf
    obtain ⟨g1, g2⟩ := h i ks[i] (List.getElem?_eq_getElem hi)
    rw [hns] at g1
    refine Or.inr ⟨i, ks[i].blk, rfl, ?_⟩
    rw [hf]
    generalize ks[i] = k at g1 g2
    cases k
    simp at g1 g2
    simp [g1, g2]

/-- WHAT HOLDS AT EACH ROUND's HEAD: w2: the world ahead of the table's making. -/
structure ARel (w2 : World) (T : Nat) (ns : List ByteArray) (j : Nat) (ks : List Spot) (wr : World) : Prop where
  cnt : ks.length = j
  ok : KeysOk ks ns
  low : w2.heap.size ≤ T
  tab : Tab wr (T + 1) T ks
  below : Below T w2 wr

section
variable {w2 wr w4 w5 : World} {T j : Nat} {ns : List ByteArray} {ks : List Spot}

theorem ARel.newKey {s : ByteArray} {i : Int} (h : ARel w2 T ns j ks wr) (hw : w4 = wr.alloc (.cells (spotCells i (.slice none 0 0) (.map none) s) 42)) :
    ARel w2 T ns j ks w4 ∧ KeyAt w4 ⟨wr.heap.size, s, i⟩ ∧ T + 1 ≤ wr.heap.size := by
  subst hw
  have hsz := h.tab.size
  have hb : Below T wr (wr.alloc (.cells (spotCells i (.slice none 0 0) (.map none) s) 42)) := (Below.refl T _).alloc (by omega) _
  exact ⟨⟨h.cnt, h.ok, h.low, h.tab.alloc _, h.below.trans hb⟩, heap_alloc_new wr _, hsz⟩

theorem ARel.step {k : Spot} (h : ARel w2 T ns j ks w4) (h1 : ns[j]? = some k.nm) (h2 : k.line = j) (ht : Tab w5 (T + 1) T (ks ++ [k])) (hK : KeptT (T + 1) T w4 w5) : ARel w2 T ns (j + 1) (ks ++ [k]) w5 := by
  have hc := h.cnt
  exact ⟨by simp [hc], h.ok.snoc (by rw [hc]; exact h1) (by rw [hc]; exact h2), h.low, ht, h.below.trans (hK.below (Nat.le_refl _) (by omega))⟩

/-- The table just made. -/
theorem arel_new (hT : w4.heap[w2.heap.size]? = some (.cells (spotCells 0 (.slice none 0 0) (.map none) ByteArray.empty) 42 (0, 0))) (hs : w2.heap.size < w4.heap.size) (hB : Below w2.heap.size w2 w4) : ARel w2 w2.heap.size ns 0 [] w4 :=
  ⟨rfl, by intro i k hk; simp at hk, Nat.le_refl _, tab_of_block hT (by omega) hs, hB⟩

end

set_option maxHeartbeats 1000000 in
set_option maxRecDepth 100000 in
theorem any_walk (a b : Option Addr) (la ca lb cb : Nat) (ns qs : List ByteArray) (w : World) (hla : ns.length = la) (hlb : qs.length = lb) (hma : la * 16 ≤ 140737488351232) (hmb : lb * 16 ≤ 140737488351232)
    (ha : Strs w a la ca ns) (hb : Strs w b lb cb qs) (hna : ∀ q ∈ ns, q.size ≤ maxLen) (hnb : ∀ q ∈ qs, q.size ≤ maxLen) :
    Calls Try.prog 5 #[.slice a la ca, .slice b lb cb] w fun e w' => e = .returned (.bool true) ∧ Below w.heap.size w w' := by
  have C20 := hid (bytes20 a b la ca lb cb ns qs w (by omega) (by omega) ha hb)
  have C7 := hid (over7 a b la ca lb cb ns qs w (by omega) (by omega) ha hb)
  have C8 := hid (clone8 a la ca ns w hla hma ha)
  have C8b := hid (fun w' h => clone8 b lb cb qs w' hlb hmb (hb.below h))
  have HLA := hid hla
  have HLB := hid hlb
  clear ha hb hla hlb
  go_enter Try.func5, Try.ntmps5
  go_wp2_with (first
    | (go_at_call 20; refine C20.out.mono ?_; rintro e w1 ⟨⟨b0, rfl⟩, hw⟩; rw [hw]; clear hw w1)
    | (go_at_call 7; refine C7.out.mono ?_; rintro e w1 ⟨⟨b1, rfl⟩, hw⟩; rw [hw]; clear hw w1))
  all_goals try (go_ret; exact ⟨rfl, Below.refl _ _⟩)
  refine C8.out.mono ?_
  rintro e w1 ⟨⟨v, rfl, hv⟩, hB1⟩
  go_wp2_with fail
  refine (C8b.out w1 hB1).mono ?_
  rintro e w2 ⟨⟨vq, rfl, hvq⟩, hB2⟩
  have hv2 := hv.below hB2 (Nat.le_refl _)
  have hBw : Below w.heap.size w w2 := hB1.trans (hB2.mono hB1.size)
  have hna1 : ns.length ≤ 4096 := by have := HLA.out; omega
  have hnb1 : qs.length ≤ 4096 := by have := HLB.out; omega
  clear hv hB2 C20 C7 C8 C8b
  go_wp2_with (go_at_call 9; refine (newTable _).mono ?_; rintro e w3 ⟨rfl, hw3⟩; have hT3 := new_block hw3; clear hw3)
  have hA3 : ARel w2 w2.heap.size ns 0 [] w3 := arel_new hT3.1 hT3.2.1 hT3.2.2
  clear hT3
  have HQ := hid hvq
  have HBW := hid hBw
  have HV := hid hv2
  have HA3 := hid hA3
  have HNA := hid hna
  have HNB := hid hnb
  clear hvq hBw hA3 hna hnb
  rcases hv2 with ⟨rfl, rfl⟩ | ⟨B0, rfl, hN⟩
  · have hR := HA3.out
    have hNV : NamesV w3 (.slice none 0 0) [] := Or.inl ⟨rfl, rfl⟩
    have hag : Agree [] [] false := by have := agree_any hR.ok hR.cnt; simpa using this
    have F1 := hid (findsAt _ _ [] _ _ [] [] false w3 hR.tab hNV hNV (by simp) (by simp) HNA.out hag)
    have F2 := hid (findsAt _ _ [] _ _ [] qs false w3 hR.tab hNV (HQ.out.below hR.below (Nat.le_refl _)) (by simp) (by omega) HNB.out hag)
    have HE := hid (HBW.out.trans (hR.below.mono HBW.out.size))
    clear hR hNV hag HQ HV HA3 HNA HNB
    go_wp2_with fail
    refine wp_loop_rounds 1 ?_
    rw [rounds_succ]
    go_wp2_with fail
    refine F1.out.mono ?_
    rintro e wa ⟨rfl, hw⟩
    rw [hw]
    clear hw wa
    go_wp2_with fail
    refine F2.out.mono ?_
    rintro e wa ⟨rfl, hw⟩
    rw [hw]
    clear hw wa
    go_wp2
    go_ret
    exact ⟨rfl, HE.out⟩
  · go_wp2
    go_loopw [6] (fun i wr => ∃ (j : Nat) (ks : List Spot), j ≤ ns.length ∧ i = .int .i64 j ∧ ARel w2 w2.heap.size ns j ks wr)
      (fun i _ => ns.length - (intOf i).toNat)
    case atStart => exact ⟨0, [], Nat.zero_le _, rfl, HA3.out⟩
    case round =>
      obtain ⟨j, ks, hj, rfl, hR⟩ := hrel
      by_cases hlt : j < ns.length
      · have hck := (hN.below hR.below hN.lt).cell j hlt
        have e1 : ns.getD j ByteArray.empty = ns[j] := by simp [hlt]
        have hsz := HNA.out ns[j] (List.getElem_mem hlt)
        have e2 : ns[j]? = some ns[j] := List.getElem?_eq_getElem hlt
        rw [e1] at hck
        generalize ns[j] = s at hck hsz e2
        have E2 := hid e2
        have HR := hid hR
        clear e1 e2 hR
        go_wp2_with (go_at_call 12; refine (newKey _ _ _).mono ?_; rintro e w4 ⟨rfl, hw4⟩; have hN4 := HR.out.newKey hw4; clear hw4)
        obtain ⟨hR4, hK4, hb4⟩ := hN4
        have C11 := zzAdd (w2.heap.size + 1) w2.heap.size ks ⟨wr.heap.size, s, j⟩ w4 hR4.tab ⟨hb4, hsz, hK4⟩ (by have := hR4.cnt; omega)
        refine C11.mono ?_
        rintro e w5 ⟨rfl, hT5, hKp⟩
        have H5 := hid (hR4.step (k := ⟨wr.heap.size, s, j⟩) E2.out rfl hT5 hKp)
        clear C11 hR4 hT5 hKp hK4 HR hck
        go_wp2
        go_roundw
        case rel => exact ⟨j + 1, _, by omega, by go_num, H5.out⟩
        case measure => simp [intOf]; omega
      · have hjn : j = ns.length := by omega
        subst hjn
        have hNV : NamesV wr (.slice (some ⟨B0, 0, none⟩) ns.length ns.length) ns := Or.inr ⟨B0, rfl, hN.below hR.below hN.lt⟩
        have hag := agree_any hR.ok hR.cnt
        have F1 := hid (findsAt _ _ ks _ _ ns ns _ wr hR.tab hNV hNV (by omega) (by omega) HNA.out hag)
        have F2 := hid (findsAt _ _ ks _ _ ns qs _ wr hR.tab hNV (HQ.out.below hR.below (Nat.le_refl _)) (by omega) (by omega) HNB.out hag)
        have HE := hid (HBW.out.trans (hR.below.mono HBW.out.size))
        clear hR hNV hag HQ HV HA3 HNA HNB hN
        go_wp2_with fail
        refine F1.out.mono ?_
        rintro e wa ⟨rfl, hw⟩
        rw [hw]
        clear hw wa
        go_wp2_with fail
        refine F2.out.mono ?_
        rintro e wa ⟨rfl, hw⟩
        rw [hw]
        clear hw wa
        go_wp2
        go_ret
        exact ⟨rfl, HE.out⟩

end Go.Proofs.Qxb6600503a
