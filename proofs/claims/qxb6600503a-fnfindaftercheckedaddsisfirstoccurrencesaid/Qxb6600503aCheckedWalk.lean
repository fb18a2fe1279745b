/-
  FnFindAfterCheckedAddsIsFirstOccurrence (function 3): the walk.
-/
import Derived.Test.Qxb6600503aFirsts
import Derived.Test.Qxb6600503aAnyWalk
namespace Go.Proofs.Qxb6600503a
open Go.RowKit Go.Maps

/-- WHAT HOLDS AT EACH ROUND's HEAD: w2: the world ahead of the table's making. -/
structure CRel (w2 : World) (T : Nat) (ns : List ByteArray) (j : Nat) (ks : List Spot) (wr : World) : Prop where
  kf : KF ks ns j
  low : w2.heap.size ≤ T
  tab : Tab wr (T + 1) T ks
  below : Below T w2 wr

section
variable {w2 wr w4 w5 : World} {T j : Nat} {ns : List ByteArray} {ks : List Spot}

theorem CRel.newKey {s : ByteArray} {i : Int} (h : CRel w2 T ns j ks wr) (hw : w4 = wr.alloc (.cells (spotCells i (.slice none 0 0) (.map none) s) 42)) :
    CRel w2 T ns j ks w4 ∧ KeyAt w4 ⟨wr.heap.size, s, i⟩ ∧ T + 1 ≤ wr.heap.size := by
  subst hw
  have hsz := h.tab.size
  have hb : Below T wr (wr.alloc (.cells (spotCells i (.slice none 0 0) (.map none) s) 42)) := (Below.refl T _).alloc (by omega) _
  exact ⟨⟨h.kf, h.low, h.tab.alloc _, h.below.trans hb⟩, heap_alloc_new wr _, hsz⟩

theorem CRel.step {k : Spot} (h : CRel w2 T ns j ks w4) (hf : isF ns j = true) (h1 : ns[j]? = some k.nm) (h2 : k.line = j) (ht : Tab w5 (T + 1) T (ks ++ [k])) (hK : KeptT (T + 1) T w4 w5) : CRel w2 T ns (j + 1) (ks ++ [k]) w5 :=
  ⟨h.kf.snoc hf h2 h1, h.low, ht, h.below.trans (hK.below (Nat.le_refl _) (by omega))⟩

theorem CRel.same (h : CRel w2 T ns j ks wr) (hf : isF ns j = false) : CRel w2 T ns (j + 1) ks wr := ⟨h.kf.same hf, h.low, h.tab, h.below⟩

theorem CRel.drewN (h : CRel w2 T ns j ks wr) (n : Nat) : CRel w2 T ns j ks (wr.drewN n) := ⟨h.kf, h.low, h.tab.drewN n, below_drewN h.below n⟩

theorem crel_new (hT : w4.heap[w2.heap.size]? = some (.cells (spotCells 0 (.slice none 0 0) (.map none) ByteArray.empty) 42 (0, 0))) (hs : w2.heap.size < w4.heap.size) (hB : Below w2.heap.size w2 w4) : CRel w2 w2.heap.size ns 0 [] w4 :=
  ⟨kf_zero ns, Nat.le_refl _, tab_of_block hT (by omega) hs, hB⟩

end

set_option maxHeartbeats 2000000 in
set_option maxRecDepth 100000 in
theorem checked_walk (a b : Option Addr) (la ca lb cb : Nat) (ns qs : List ByteArray) (w : World) (hla : ns.length = la) (hlb : qs.length = lb) (hma : la * 16 ≤ 140737488351232) (hmb : lb * 16 ≤ 140737488351232)
    (ha : Strs w a la ca ns) (hb : Strs w b lb cb qs) (hna : ∀ q ∈ ns, q.size ≤ maxLen) (hnb : ∀ q ∈ qs, q.size ≤ maxLen) :
    Calls Try.prog 3 #[.slice a la ca, .slice b lb cb] w fun e w' => e = .returned (.bool true) ∧ Below w.heap.size w w' := by
  have C6 := hid (bytes6 a b la ca lb cb ns qs w (by omega) (by omega) ha hb)
  have C7 := hid (over7 a b la ca lb cb ns qs w (by omega) (by omega) ha hb)
  have C8 := hid (clone8 a la ca ns w hla hma ha)
  have C8b := hid (fun w' h => clone8 b lb cb qs w' hlb hmb (hb.below h))
  have HLA := hid hla
  have HLB := hid hlb
  clear ha hb hla hlb
  go_enter Try.func3, Try.ntmps3
  go_wp2_with (first
    | (go_at_call 6; refine C6.out.mono ?_; rintro e w1 ⟨⟨b0, rfl⟩, hw⟩; rw [hw]; clear hw w1)
    | (go_at_call 7; refine C7.out.mono ?_; rintro e w1 ⟨⟨b1, rfl⟩, hw⟩; rw [hw]; clear hw w1))
  all_goals try (go_ret; exact ⟨rfl, Below.refl _ _⟩)
  refine C8.out.mono ?_
  rintro e w1 ⟨⟨v, rfl, hv⟩, hB1⟩
  go_wp2_with fail
  refine (C8b.out w1 hB1).mono ?_
  rintro e w2 ⟨⟨vq, rfl, hvq⟩, hB2⟩
  have hv2 := hv.below hB2 (Nat.le_refl _)
  have hBw : Below w.heap.size w w2 := hB1.trans (hB2.mono hB1.size)
  have hna1 : ns.length ≤ 4096 := by have := HLA.out; omega
  have hnb1 : qs.length ≤ 4096 := by have := HLB.out; omega
  clear hv hB2 C6 C7 C8 C8b
  go_wp2_with (go_at_call 9; refine (newTable _).mono ?_; rintro e w3 ⟨rfl, hw3⟩; have hT3 := new_block hw3; clear hw3)
  have hA3 : CRel w2 w2.heap.size ns 0 [] w3 := crel_new hT3.1 hT3.2.1 hT3.2.2
  clear hT3
  have HQ := hid hvq
  have HBW := hid hBw
  have HV := hid hv2
  have HA3 := hid hA3
  have HNA := hid hna
  have HNB := hid hnb
  clear hvq hBw hA3 hna hnb
  rcases hv2 with ⟨rfl, rfl⟩ | ⟨B0, rfl, hN⟩
  · have hR := HA3.out
    have hNV : NamesV w3 (.slice none 0 0) [] := Or.inl ⟨rfl, rfl⟩
    have hag : Agree [] [] false := agree_checked hR.kf
    have C14 := hid (zzLenN _ _ [] 0 w3 hR.tab rfl)
    have F1 := hid (findsAt _ _ [] _ _ [] [] false w3 hR.tab hNV hNV (by simp) (by simp) HNA.out hag)
    have F2 := hid (findsAt _ _ [] _ _ [] qs false w3 hR.tab hNV (HQ.out.below hR.below (Nat.le_refl _)) (by simp) (by omega) HNB.out hag)
    have HE := hid (HBW.out.trans (hR.below.mono HBW.out.size))
    clear hR hNV hag HQ HV HA3 HNA HNB
    go_wp2_with fail
    refine wp_loop_rounds 1 ?_
    rw [rounds_succ]
    go_wp2_with fail
    refine wp_loop_rounds 1 ?_
    rw [rounds_succ]
    go_wp2_with (go_at_call 14; refine C14.out.mono ?_; rintro e wa ⟨rfl, hw⟩; rw [hw]; clear hw wa)
    refine F1.out.mono ?_
    rintro e wa ⟨rfl, hw⟩
    rw [hw]
    clear hw wa
    go_wp2_with fail
    refine F2.out.mono ?_
    rintro e wa ⟨rfl, hw⟩
    rw [hw]
    clear hw wa
    go_wp2
    go_ret
    exact ⟨rfl, HE.out⟩
  · go_wp2
    go_loopw [6] (fun i wr => ∃ (j : Nat) (ks : List Spot), j ≤ ns.length ∧ i = .int .i64 j ∧ CRel w2 w2.heap.size ns j ks wr)
      (fun i _ => ns.length - (intOf i).toNat)
    case atStart => exact ⟨0, [], Nat.zero_le _, rfl, HA3.out⟩
    case round =>
      obtain ⟨j, ks, hj, rfl, hR⟩ := hrel
      by_cases hlt : j < ns.length
      · have hck := (hN.below hR.below hN.lt).cell j hlt
        have e1 : ns.getD j ByteArray.empty = ns[j] := by simp [hlt]
        have hsz := HNA.out ns[j] (List.getElem_mem hlt)
        have e2 : ns[j]? = some ns[j] := List.getElem?_eq_getElem hlt
        rw [e1] at hck
        generalize ns[j] = s at hck hsz e2
        have E2 := hid e2
        have HR := hid hR
        have C10 := hid (zzFind _ _ ks s wr hR.tab hsz)
        clear e1 e2 hR
        go_wp2_with fail
        refine C10.out.mono ?_
        rintro e wa ⟨⟨f, hf, rfl⟩, hw⟩
        rw [hw]
        clear hw wa
        rcases HR.out.kf.round E2.out hf with ⟨hf0, hF⟩ | ⟨⟨k, hf0⟩, hF⟩
        · rw [hf0]
          simp only [Option.map_none]
          have HF := hid hF
          clear hf hf0 hF
          go_wp2_with (go_at_call 12; refine (newKey _ _ _).mono ?_; rintro e w4 ⟨rfl, hw4⟩; have hN4 := HR.out.newKey hw4; clear hw4)
          obtain ⟨hR4, hK4, hb4⟩ := hN4
          have C11 := zzAdd (w2.heap.size + 1) w2.heap.size ks ⟨wr.heap.size, s, j⟩ w4 hR4.tab ⟨hb4, hsz, hK4⟩ (by have := hR4.kf.len; have := firsts_le ns j; omega)
          refine C11.mono ?_
          rintro e w5 ⟨rfl, hT5, hKp⟩
          have H5 := hid (hR4.step (k := ⟨wr.heap.size, s, j⟩) HF.out E2.out rfl hT5 hKp)
          clear C11 hR4 hT5 hKp hK4 HR hck
          go_wp2
          go_roundw
          case rel => exact ⟨j + 1, _, by omega, by go_num, H5.out⟩
          case measure => simp [intOf]; omega
        · rw [hf0]
          simp only [Option.map_some]
          have H5 := hid (HR.out.same hF)
          clear hf hf0 hF HR hck
          go_wp2
          go_roundw
          case rel => exact ⟨j + 1, _, by omega, by go_num, H5.out⟩
          case measure => simp [intOf]; omega
      · have hjn : j = ns.length := by omega
        subst hjn
        have HR := hid hR
        clear hR
        go_wp2
        go_loopw [7, 8] (fun kv i wr => ∃ j : Nat, j ≤ ns.length ∧ i = .int .i64 j ∧ kv = .int .i64 ((firsts ns j).length : Nat) ∧ CRel w2 w2.heap.size ns ns.length ks wr)
          (fun _ i _ => ns.length - (intOf i).toNat)
        case atStart => exact ⟨0, Nat.zero_le _, rfl, rfl, HR.out⟩
        case round =>
          obtain ⟨j, hj2, rfl, rfl, hR⟩ := hrel
          have hNV : NamesV wr (.slice (some ⟨B0, 0, none⟩) ns.length ns.length) ns := Or.inr ⟨B0, rfl, hN.below hR.below hN.lt⟩
          have hle := firsts_le ns j
          have hlen := firsts_le ns ns.length
          clear HR
          by_cases hlt2 : j < ns.length
          · have hck := (hN.below hR.below hN.lt).cell j hlt2
            have e1 : ns.getD j ByteArray.empty = ns[j] := by simp [hlt2]
            have e2 : ns[j]? = some ns[j] := List.getElem?_eq_getElem hlt2
            rw [e1] at hck
            generalize ns[j] = s at hck e2
            have E2 := hid e2
            have HR := hid hR
            have C13 := hid (first13 _ ns s wr hNV (by omega))
            have C14 := hid (zzLenN _ _ ks _ wr hR.tab hR.kf.len)
            clear e1 e2 hR hNV
            go_wp2_with fail
            refine C13.out.mono ?_
            rintro e wa ⟨⟨o, ho, rfl⟩, hw⟩
            rw [hw]
            clear hw wa C13
            cases hF : isF ns j with
            | true =>
              have hoo : o = some j := ho.uniq ((isF_iff E2.out).1 hF)
              have hat := firsts_at ns j hF ns.length hlt2
              have hc : (firsts ns j).length < (firsts ns ns.length).length := (List.getElem?_eq_some_iff.1 hat).1
              have hkl : (firsts ns j).length < ks.length := by rw [HR.out.kf.len]; exact hc
              have hkq : ks[(firsts ns j).length]? = some ks[(firsts ns j).length] := List.getElem?_eq_getElem hkl
              generalize ks[(firsts ns j).length] = k at hkq
              obtain ⟨i', g1, g2, g3⟩ := HR.out.kf.key _ k hkq
              rw [hat] at g1
              cases g1
              rw [E2.out] at g3
              obtain ⟨kb, nm, ln⟩ := k
              simp only [Option.some.injEq] at g2 g3
              subst g2
              subst g3
              have hKA : KeyAt wr ⟨kb, s, j⟩ := (HR.out.tab.keys _ (List.mem_of_getElem? hkq)).2.2
              have C15 := hid (zzAt _ _ ks (firsts ns j).length ⟨kb, s, j⟩ wr HR.out.tab hkq (by have := HR.out.kf.len; omega))
              have C16 := hid (fun n => zzLine ⟨kb, s, j⟩ (wr.drewN n) (show KeyAt (wr.drewN n) _ from hKA))
              have C17 := hid (fun n => zzName ⟨kb, s, j⟩ (wr.drewN n) (show KeyAt (wr.drewN n) _ from hKA))
              have E5 : Hid ((firsts ns (j + 1)).length = (firsts ns j).length + 1) := by rw [firsts_succ hF]; exact hid (by simp)
              rw [hoo]
              simp only [idxI]
              clear hF hoo hat hkl hkq hKA ho
              generalize (firsts ns j).length = c at *
              go_wp2_with (first
                | (go_at_call 14; refine C14.out.mono ?_; rintro e wa ⟨rfl, hw⟩; rw [hw]; clear hw wa)
                | (go_at_call 15; refine C15.out.mono ?_; rintro e wa ⟨rfl, hw⟩; rw [hw]; clear hw wa))
              go_quiet ((first | (go_at_call 16; exact Calls.quiet_of_same (C16.out _)) | (go_at_call 17; exact Calls.quiet_of_same (C17.out _))))
              go_wp2
              go_roundw
              case rel => exact ⟨j + 1, by omega, by go_num, by rw [E5.out]; go_num, HR.out.drewN _⟩
              case measure => simp [intOf]; omega
            | false =>
              have hne : o ≠ some j := fun e => by
                subst e
                rw [(isF_iff E2.out).2 ho] at hF
                cases hF
              have hbb : (idxI o != (j : Int)) = true := by
                cases o with
                | none => simp [idxI]
                | some i =>
                  have : i ≠ j := fun e => hne (by rw [e])
                  simp [idxI]
                  omega
              have E5 : Hid ((firsts ns (j + 1)).length = (firsts ns j).length) := by rw [firsts_same hF]; exact hid rfl
              clear hF hne ho
              generalize (firsts ns j).length = c at *
              go_wp2
              go_roundw
              case rel => exact ⟨j + 1, by omega, by go_num, by rw [E5.out], HR.out⟩
              case measure => simp [intOf]; omega
          · have hjn : j = ns.length := by omega
            subst hjn
            have hag := agree_checked hR.kf
            have C14 := hid (zzLenN _ _ ks _ wr hR.tab hR.kf.len)
            have F1 := hid (findsAt _ _ ks _ _ ns ns false wr hR.tab hNV hNV (by omega) (by omega) HNA.out hag)
            have F2 := hid (findsAt _ _ ks _ _ ns qs false wr hR.tab hNV (HQ.out.below hR.below (Nat.le_refl _)) (by omega) (by omega) HNB.out hag)
            have HE := hid (HBW.out.trans (hR.below.mono HBW.out.size))
            clear hR hNV hag HQ HV HA3 HNA HNB hN
            go_wp2_with (go_at_call 14; refine C14.out.mono ?_; rintro e wa ⟨rfl, hw⟩; rw [hw]; clear hw wa)
            refine F1.out.mono ?_
            rintro e wa ⟨rfl, hw⟩
            rw [hw]
            clear hw wa
            go_wp2_with fail
            refine F2.out.mono ?_
            rintro e wa ⟨rfl, hw⟩
            rw [hw]
            clear hw wa
            go_wp2
            go_ret
            exact ⟨rfl, HE.out⟩

end Go.Proofs.Qxb6600503a
