/-
  First, Last (functions 13, 23); find (21), ZZFind (10).
-/
import Derived.Test.Qxb6600503aRead
import Derived.Test.Qxb6600503aPlain
namespace Go.Proofs.Qxb6600503a
open Go.RowKit Go.Maps

/-- The value v is a cloned slice of the strings ns: nil, or a row of its own. -/
def NamesV (w : World) (v : Value) (ns : List ByteArray) : Prop := (v = .slice none 0 0 ∧ ns = []) ∨ ∃ B, v = .slice (some ⟨B, 0, none⟩) ns.length ns.length ∧ Names w B ns.length ns

/-- It returned the number of the place o. -/
def RetIx (p : Option Nat → Prop) (e : Ending) : Prop := ∃ o, p o ∧ e = .returned (.int .i64 (idxI o))

set_option maxHeartbeats 400000 in
set_option maxRecDepth 100000 in
theorem first13 (v : Value) (ns : List ByteArray) (q : ByteArray) (w : World) (h : NamesV w v ns) (hl : ns.length ≤ 100000) :
    Calls Try.prog 13 #[v, .string q] w fun e w' => RetIx (IsFirst ns q) e ∧ w' = w := by
  rcases h with ⟨rfl, rfl⟩ | ⟨B, rfl, hN⟩
  · go_enter Try.func13, Try.ntmps13
    go_wp2
    refine wp_loop_rounds 1 ?_
    rw [rounds_succ]
    go_wp2
    go_ret
    exact ⟨⟨none, fun j x hx => by simp at hx, rfl⟩, rfl⟩
  · go_enter Try.func13, Try.ntmps13
    go_wp2
    go_loop [5] (fun i => ∃ k : Nat, k ≤ ns.length ∧ i = .int .i64 k ∧ ∀ (j : Nat) x, j < k → ns[j]? = some x → x ≠ q) (fun i => ns.length - (intOf i).toNat)
    case atStart => exact ⟨0, Nat.zero_le _, rfl, fun j x hj => by omega⟩
    case round =>
      obtain ⟨k, hk, rfl, hno⟩ := hrel
      have HN := hid hno
      have HNN := hid hN
      clear hno
      by_cases hlt : k < ns.length
      · have hck := hN.cell k hlt
        have e1 : ns.getD k ByteArray.empty = ns[k] := by simp [hlt]
        have e2 : ns[k]? = some ns[k] := List.getElem?_eq_getElem hlt
        rw [e1] at hck
        generalize ns[k] = s at hck e2
        have E2 := hid e2
        clear hN e1 e2
        by_cases hq : s = q
        · have hb := beq_str.2 hq
          have HQ := hid hq
          clear hq
          go_wp2
          go_ret
          exact ⟨⟨some k, ⟨by rw [E2.out, HQ.out], HN.out⟩, rfl⟩, rfl⟩
        · have hb := beq_str_no hq
          go_wp2
          go_round
          case rel =>
            refine ⟨k + 1, by omega, by go_num, fun j x hj hx => ?_⟩
            by_cases e : j = k
            · subst e
              rw [E2.out] at hx
              cases hx
              exact hq
            · exact HN.out j x (by omega) hx
          case measure => simp [intOf]; omega
      · clear hN
        go_wp2
        go_ret
        exact ⟨⟨none, fun j x hx => HN.out j x (by have := (List.getElem?_eq_some_iff.1 hx).1; omega) hx, rfl⟩, rfl⟩

set_option maxHeartbeats 400000 in
set_option maxRecDepth 100000 in
theorem last23 (v : Value) (ns : List ByteArray) (q : ByteArray) (w : World) (h : NamesV w v ns) (hl : ns.length ≤ 100000) :
    Calls Try.prog 23 #[v, .string q] w fun e w' => RetIx (IsLast ns q) e ∧ w' = w := by
  rcases h with ⟨rfl, rfl⟩ | ⟨B, rfl, hN⟩
  · go_enter Try.func23, Try.ntmps23
    go_wp2
    refine wp_loop_rounds 1 ?_
    rw [rounds_succ]
    go_wp2
    go_ret
    exact ⟨⟨none, fun j x hx => by simp at hx, rfl⟩, rfl⟩
  · go_enter Try.func23, Try.ntmps23
    go_wp2
    go_loop [5] (fun i => ∃ k : Nat, k ≤ ns.length ∧ i = .int .i64 ((k : Int) - 1) ∧ ∀ (j : Nat) x, k ≤ j → ns[j]? = some x → x ≠ q) (fun i => (intOf i + 1).toNat)
    case atStart => exact ⟨ns.length, Nat.le_refl _, by go_num, fun j x hj hx => by have := (List.getElem?_eq_some_iff.1 hx).1; omega⟩
    case round =>
      obtain ⟨k, hk, rfl, hno⟩ := hrel
      have HN := hid hno
      clear hno
      by_cases hlt : 0 < k
      · obtain ⟨m, hm⟩ : ∃ m, k = m + 1 := ⟨k - 1, by omega⟩
        subst hm
        have hck := hN.cell m (by omega)
        have e1 : ns.getD m ByteArray.empty = ns[m] := by simp; rw [List.getElem?_eq_getElem (by omega)]; rfl
        have e2 : ns[m]? = some ns[m] := List.getElem?_eq_getElem (by omega)
        rw [e1] at hck
        generalize ns[m] = s at hck e2
        have E2 := hid e2
        clear hN e1 e2
        have e3 : (((m + 1 : Nat) : Int) - 1) = (m : Int) := by omega
        rw [e3]
        clear e3
        by_cases hq : s = q
        · have hb := beq_str.2 hq
          have HQ := hid hq
          clear hq
          go_wp2
          go_ret
          exact ⟨⟨some m, ⟨by rw [E2.out, HQ.out], fun j x hj hx => HN.out j x (by omega) hx⟩, rfl⟩, rfl⟩
        · have hb := beq_str_no hq
          go_wp2
          go_round
          case rel =>
            refine ⟨m, by omega, by go_num, fun j x hj hx => ?_⟩
            by_cases e : j = m
            · subst e
              rw [E2.out] at hx
              cases hx
              exact hq
            · exact HN.out j x (by omega) hx
          case measure => simp [intOf]
      · have hk0 : k = 0 := by omega
        clear hN
        go_wp2
        go_ret
        exact ⟨⟨none, fun j x hx => HN.out j x (by omega) hx, rfl⟩, rfl⟩

/-- It returned a pointer to the spot f, or nil. -/
def RetSpot (p : Option Spot → Prop) (e : Ending) : Prop := ∃ f, p f ∧ e = .returned (.pointer (f.map fun k => ⟨k.blk, 0, none⟩))

theorem ret_ptr (f : Option Spot) : Ending.returned (ptr (f.map (·.blk))) = .returned (.pointer (f.map fun k => ⟨k.blk, 0, none⟩)) := by cases f <;> rfl

/-- 'm[k]' AT ELEMENTS THAT ARE POINTERS. -/
theorem wpList_lookup_ptr {P : Program} (w : World) {ops : Array Oper} {rest : List Oper} {o : Oper} {a : Act} {Q : Exit → Act → World → Prop}
    (hg : o.guard = none) (m x : Operand) (t : TypeId) (hop : o.op = Op.lookup t m x false)
    (k e : TypeId) (K : Keyed P k) (ht : P.underlying t = some (.map k e)) (hz : (zeroValue e).run P w = .ok (.pointer none) w) (b n : Nat) (D : DataW Unit)
    (hm : a.eval m = .map (some b)) (hown : w.ownsMap P k ptrElem b n D) (key : Value) (kl : Lit) (hx : a.eval x = key) (hkey : keyOf P k key = some kl) (r : Option Nat) (hr : D.atKey kl .nil = encO r)
    (hK : wpList P ops Q rest (a.put o.dst (ptr r)) w) :
    wpList P ops Q (o :: rest) a w := by
  refine wpList_plain hg fun K' hK' => ?_
  obtain ⟨v, ps, hrun, hv⟩ := hown.lookup K ht hz (ptrElem_ptr none) hkey
  have e0 : encO none = DataW.nil := rfl
  rw [e0, hr] at hv
  obtain rfl := ptrElem_inv hv
  unfold Oper.wp
  simp [execOp, hop, hm, hx, hrun, Result.andThen]
  exact hK' _ _ hK

set_option maxHeartbeats 400000 in
set_option maxRecDepth 100000 in
theorem find_map (base T B n : Nat) (ks : List Spot) (v : Value) (q : ByteArray) (w : World) (h : TabM w base T ks v (.map (some B))) (hq : q.size ≤ maxLen) (hmap : w.ownsMap Try.prog 9 ptrElem B n (byNameOf ks)) :
    Calls Try.prog 21 #[.pointer (some ⟨T, 0, none⟩), .string q] w fun e w' => RetSpot (fun f => ∃ o, IsLast (ks.map (·.nm)) q o ∧ f = o.bind (fun i => ks[i]?)) e ∧ w' = w := by
  have hn := fun (w : World) (r : Option Nat) => run_neq_map_nil (P := Try.prog) w 40 9 25 r Try.underlying40
  have c5 := h.cell5
  obtain ⟨o, ho, hat⟩ := atKey_byName ks q
  obtain ⟨f, hf⟩ : ∃ f, f = o.bind (fun i => ks[i]?) := ⟨_, rfl⟩
  rw [← hf] at hat
  have HO := hid ho
  have HA := hid hat
  have HF := hid hf
  clear h ho hat hf
  go_enter Try.func21, Try.ntmps21
  go_wp2_with (at_lookup; refine wpList_lookup_ptr _ rfl _ _ 40 rfl 9 25 law9 Try.underlying40 (zero25 _) B n _ rfl hmap _ _ rfl (WideMaps.keyOf_string_mk Try.underlying9 hq) _ HA.out ?_)
  go_ret
  exact ⟨⟨f, ⟨o, HO.out, HF.out⟩, ret_ptr f⟩, rfl⟩

set_option maxHeartbeats 400000 in
set_option maxRecDepth 100000 in
theorem find_row (base T : Nat) (ks : List Spot) (v : Value) (q : ByteArray) (w : World) (h : TabM w base T ks v (.map none)) (hl : ks.length ≤ 16) :
    Calls Try.prog 21 #[.pointer (some ⟨T, 0, none⟩), .string q] w fun e w' => RetSpot (fun f => ∃ o, IsFirst (ks.map (·.nm)) q o ∧ f = o.bind (fun i => ks[i]?)) e ∧ w' = w := by
  have hn := fun (w : World) (r : Option Nat) => run_neq_map_nil (P := Try.prog) w 40 9 25 r Try.underlying40
  have c5 := h.cell5
  have c4 := h.cell4
  by_cases h0 : 0 < ks.length
  · obtain ⟨g, cap, rfl⟩ := h.shape_pos h0
    go_enter Try.func21, Try.ntmps21
    go_wp2
    go_loop [23] (fun i => ∃ k : Nat, k ≤ ks.length ∧ i = .int .i64 k ∧ ∀ (j : Nat) x, j < k → (ks.map (·.nm))[j]? = some x → x ≠ q) (fun i => ks.length - (intOf i).toNat)
    case atStart => exact ⟨0, Nat.zero_le _, rfl, fun j x hj => by omega⟩
    case round =>
      obtain ⟨k, hk, rfl, hno⟩ := hrel
      have HN := hid hno
      have HH := hid h
      clear hno c4 c5
      by_cases hlt : k < ks.length
      · have e2 : ks[k]? = some ks[k] := List.getElem?_eq_getElem hlt
        have hck := h.cellAt k _ e2
        have hkn := (h.keys ks[k] (List.getElem_mem hlt)).2.2.name
        unfold ptr at hck
        simp only [Option.map_some] at hck
        generalize ks[k] = s at hck e2 hkn
        have E2 := hid e2
        have E3 : Hid ((ks.map (·.nm))[k]? = some s.nm) := by rw [List.getElem?_map, e2]; rfl
        clear h e2
        by_cases hq : s.nm = q
        · have hb := beq_str.2 hq
          have HQ := hid hq
          clear hq
          go_wp2
          go_ret
          exact ⟨⟨some s, ⟨some k, ⟨by rw [E3.out, HQ.out], HN.out⟩, E2.out.symm⟩, rfl⟩, rfl⟩
        · have hb := beq_str_no hq
          go_wp2
          go_round
          case rel =>
            refine ⟨k + 1, by omega, by go_num, fun j x hj hx => ?_⟩
            by_cases e : j = k
            · subst e
              rw [E3.out] at hx
              cases hx
              exact hq
            · exact HN.out j x (by omega) hx
          case measure => simp [intOf]; omega
      · clear h
        go_wp2
        go_ret
        exact ⟨⟨none, ⟨none, fun j x hx => HN.out j x (by have := (List.getElem?_eq_some_iff.1 hx).1; simp at this; omega) hx, rfl⟩, rfl⟩, rfl⟩
  · have hk0 : ks = [] := by cases ks with | nil => rfl | cons a b => simp at h0
    obtain ⟨ao, cap, rfl⟩ := h.shape
    subst hk0
    clear h
    simp only [List.length_nil] at c4
    go_enter Try.func21, Try.ntmps21
    go_wp2
    refine wp_loop_rounds 1 ?_
    rw [rounds_succ]
    go_wp2
    go_ret
    exact ⟨⟨none, ⟨none, fun j x hx => by simp at hx, rfl⟩, rfl⟩, rfl⟩

theorem find21 (base T : Nat) (ks : List Spot) (q : ByteArray) (w : World) (h : Tab w base T ks) (hq : q.size ≤ maxLen) :
    Calls Try.prog 21 #[.pointer (some ⟨T, 0, none⟩), .string q] w fun e w' => RetSpot (FindSpec ks q) e ∧ w' = w := by
  obtain ⟨v, m, hT, h1, h2⟩ := h
  by_cases hl : ks.length ≤ 16
  · obtain rfl := h1 hl
    refine (find_row base T ks v q w hT hl).mono fun e w' ⟨⟨f, ⟨o, ho, hf⟩, he⟩, hw⟩ => ⟨⟨f, ⟨o, fun _ => ho, fun hh => by omega, hf⟩, he⟩, hw⟩
  · obtain ⟨B, n, rfl, hB, hn, hm⟩ := h2 (by omega)
    refine (find_map base T B n ks v q w hT hq hm).mono fun e w' ⟨⟨f, ⟨o, ho, hf⟩, he⟩, hw⟩ => ⟨⟨f, ⟨o, fun hh => by omega, fun _ => ho, hf⟩, he⟩, hw⟩

set_option maxRecDepth 100000 in
theorem zzFind (base T : Nat) (ks : List Spot) (q : ByteArray) (w : World) (h : Tab w base T ks) (hq : q.size ≤ maxLen) :
    Calls Try.prog 10 #[.pointer (some ⟨T, 0, none⟩), .string q] w fun e w' => RetSpot (FindSpec ks q) e ∧ w' = w := by
  have C := hid (find21 base T ks q w h hq)
  clear h hq
  go_enter Try.func10, Try.ntmps10
  go_wp2_with (go_at_call 21; refine C.out.mono ?_; rintro e w1 ⟨⟨f, hf, rfl⟩, hw⟩; rw [hw]; clear hw w1)
  go_ret
  exact ⟨⟨f, hf, rfl⟩, rfl⟩

end Go.Proofs.Qxb6600503a
