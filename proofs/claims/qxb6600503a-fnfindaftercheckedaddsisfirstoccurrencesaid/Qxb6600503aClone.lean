/-
  zzTomlB1Clone (function 8): nil stays nil; a slice that is not nil is copied into a new row.
-/
import Derived.Test.Qxb6600503aBytes
import Derived.Lib.SliceRun
namespace Go.Proofs.Qxb6600503a
open Go.RowKit

theorem Try.info9 : (Try.prog.info? 9).map (fun i => (i.zero, i.size, i.bytes)) = some (some (.string ByteArray.empty), 1, 16) := by kernel_rfl

/-- Block B of w holds n strings ss. -/
structure Names (w : World) (B n : Nat) (ss : List ByteArray) : Prop where
  lt : B < w.heap.size
  cell : ∀ k, k < n → w.cell? ⟨B, k, none⟩ = some (.string (ss.getD k ByteArray.empty))

theorem Names.below {w w' : World} {B n C : Nat} {ss : List ByteArray} (h : Names w B n ss) (hb : Below C w w') (hC : B < C) : Names w' B n ss :=
  ⟨Nat.lt_of_lt_of_le h.lt hb.size, fun k hk => (hb.cell (p := ⟨B, k, none⟩) hC).trans (h.cell k hk)⟩

theorem clone_nil (w : World) : Calls Try.prog 8 #[.slice none 0 0] w fun e w' => e = .returned (.slice none 0 0) ∧ w' = w := by
  have hq : ∀ (w : World) (a : Option Addr) (n c n' c' : Nat), (binOp .eql 22 (.slice a n c) (.slice none n' c')).run Try.prog w = .ok (.bool a.isNone) w := fun w a n c n' c' => Lib.run_eql_slice_nil w _ _ a n c n' c' Try.underlying22
  go_enter Try.func8, Try.ntmps8
  go_wp2
  go_ret
  exact ⟨rfl, rfl⟩

set_option maxHeartbeats 400000 in
set_option maxRecDepth 100000 in
theorem clone_some (ad : Addr) (len cap : Nat) (ss : List ByteArray) (w : World) (hm : len * 16 ≤ 140737488351232)
    (hc : ∀ k, k < len → w.cell? (ad.add k) = some (.string (ss.getD k ByteArray.empty))) :
    Calls Try.prog 8 #[.slice (some ad) len cap] w fun e w' => e = .returned (.slice (some ⟨w.heap.size, 0, none⟩) len len) ∧ Names w' w.heap.size len ss ∧ Below w.heap.size w w' := by
  have hq : ∀ (w : World) (a : Option Addr) (n c n' c' : Nat), (binOp .eql 22 (.slice a n c) (.slice none n' c')).run Try.prog w = .ok (.bool a.isNone) w := fun w a n c n' c' => Lib.run_eql_slice_nil w _ _ a n c n' c' Try.underlying22
  obtain ⟨i0, hi, hz0, hz1, hz2⟩ := info_parts Try.info9
  go_enter Try.func8, Try.ntmps8
  go_wp2_with (at_make; refine wpList_make_full _ rfl _ _ 22 rfl w.heap.size 9 i0 (.string ByteArray.empty) 1 Try.underlying22 hi hz0 hz1 _ _ _ _ len rfl rfl rfl rfl ?b2 ?b3 ?b4 ?_)
  case b2 => rw [hz2]; omega
  case b3 => unfold maxLen; omega
  case b4 => exact Nat.le_refl _
  intro w1 hown1 hgrow1
  have hb1 : Below w.heap.size w w1 := (Below.refl _ _).grown hgrow1 (Nat.le_refl _) (fun k hk => by cases hk)
  go_wp2
  go_loopw [4] (fun i wr => ∃ (k : Nat) (xs : List Value), k ≤ len ∧ i = .int .i64 k ∧ wr.ownsRow w.heap.size 9 1 (.slice (some ⟨w.heap.size, 0, none⟩) len len) len xs ∧ (∀ j, j < k → xs[j]? = some (.string (ss.getD j ByteArray.empty))) ∧ Below w.heap.size w wr)
    (fun i _ => len - (intOf i).toNat)
  case atStart => exact ⟨0, _, Nat.zero_le _, rfl, hown1, fun j hj => by omega, hb1⟩
  case round =>
    obtain ⟨k, xs, hk, rfl, hown, hxs, hb⟩ := hrel
    clear hown1 hgrow1 hb1
    by_cases hlt : k < len
    · have hxl : xs.length = len := by simpa using hown.1
      have hcx : wr.cell? (ad.add k) = some (.string (ss.getD k ByteArray.empty)) := by
        have h1 := hc k hlt
        have h2 := World.block_lt_of_cell? w _ h1
        exact (hb.cell h2).trans h1
      have hold : ∃ u, wr.cell? ⟨w.heap.size, k, none⟩ = some u := ⟨_, (hown.cellAt k (by omega)).trans (List.getElem?_eq_getElem (by omega))⟩
      obtain ⟨u, hu⟩ := hold
      have hfz := hown.frozenAt k
      have hst := hown.stored k (.string (ss.getD k ByteArray.empty))
      have hown2 := hst.1
      have hb2 : Below w.heap.size w (wr.setCell ⟨w.heap.size, k, none⟩ (.string (ss.getD k ByteArray.empty))) := hb.setCell (Nat.le_refl _) _
      have hxs2 : ∀ j, j < k + 1 → (xs.set k (.string (ss.getD k ByteArray.empty)))[j]? = some (.string (ss.getD j ByteArray.empty)) := by
        intro j hj
        by_cases e : j = k
        · subst e; rw [List.getElem?_set_self (by omega)]
        · rw [List.getElem?_set_ne (by omega)]; exact hxs j (by omega)
      have H1 : Hid _ := hown2
      have H2 : Hid _ := hb2
      have H3 : Hid _ := hxs2
      clear hown2 hb2 hxs2 hst hxs hown hb hxl
      go_wp2
      go_roundw
      case rel => exact ⟨k + 1, _, by omega, by go_num, H1.out, H3.out, H2.out⟩
      case measure => simp [intOf]; omega
    · have hn : Names wr w.heap.size len ss := ⟨by have := (hown.lt w.heap.size rfl).2; exact this, fun j hj => (hown.cellAt j (by omega)).trans (hxs j (by omega))⟩
      clear hxs hown
      go_wp2
      go_ret
      exact ⟨rfl, hn, hb⟩

end Go.Proofs.Qxb6600503a
