/-
  The readers of a table and of a key (functions 14 .. 17), First, Last (13, 23), find (21, 10).
-/
import Derived.Test.Qxb6600503aAdd
namespace Go.Proofs.Qxb6600503a
open Go.RowKit Go.Maps

set_option maxRecDepth 100000 in
theorem zzLen (base T : Nat) (ks : List Spot) (w : World) (h : Tab w base T ks) : Calls Try.prog 14 #[ptr (some T)] w fun e w' => e = .returned (.int .i64 ks.length) ∧ w' = w := by
  obtain ⟨v, m, hT, _, _⟩ := h
  obtain ⟨ao, cap, rfl⟩ := hT.shape
  have c4 := hT.cell4
  clear hT
  unfold ptr
  go_enter Try.func14, Try.ntmps14
  go_wp2
  go_ret
  exact ⟨rfl, rfl⟩

set_option maxRecDepth 100000 in
theorem zzAt (base T : Nat) (ks : List Spot) (j : Nat) (k : Spot) (w : World) (h : Tab w base T ks) (hj : ks[j]? = some k) (hl : ks.length ≤ 100000) :
    Calls Try.prog 15 #[ptr (some T), .int .i64 j] w fun e w' => e = .returned (.pointer (some ⟨k.blk, 0, none⟩)) ∧ w' = w := by
  have hjl : j < ks.length := (List.getElem?_eq_some_iff.1 hj).1
  obtain ⟨v, m, hT, _, _⟩ := h
  obtain ⟨g, cap, rfl⟩ := hT.shape_pos (by omega)
  have c4 := hT.cell4
  have cj := hT.cellAt j k hj
  unfold ptr at cj
  simp only [Option.map_some] at cj
  clear hT hj
  unfold ptr
  go_enter Try.func15, Try.ntmps15
  go_wp2
  go_ret
  exact ⟨rfl, rfl⟩

set_option maxRecDepth 100000 in
theorem zzLine (k : Spot) (w : World) (h : KeyAt w k) : Calls Try.prog 16 #[ptr (some k.blk)] w fun e w' => e = .returned (.int .i64 k.line) ∧ w' = w := by
  have c0 := h.line
  clear h
  unfold ptr
  go_enter Try.func16, Try.ntmps16
  go_wp2
  go_ret
  exact ⟨rfl, rfl⟩

set_option maxRecDepth 100000 in
theorem zzName (k : Spot) (w : World) (h : KeyAt w k) : Calls Try.prog 17 #[ptr (some k.blk)] w fun e w' => e = .returned (.string k.nm) ∧ w' = w := by
  have c0 := h.name
  clear h
  unfold ptr
  go_enter Try.func17, Try.ntmps17
  go_wp2
  go_ret
  exact ⟨rfl, rfl⟩

end Go.Proofs.Qxb6600503a
