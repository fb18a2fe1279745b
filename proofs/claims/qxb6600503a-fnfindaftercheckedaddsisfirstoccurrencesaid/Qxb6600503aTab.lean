/-
  THE TABLE: what a spot's block holds; 'TabM': the table's block, its row of keys, each key's block; the map by name; laws that carry them.
-/
import Derived.Test.Qxb6600503aClone
import Derived.Maps.OwnSet
namespace Go.Proofs.Qxb6600503a
open Go.RowKit Go.Maps

theorem hid {p : Prop} (h : p) : Hid p := h

/-- The nine cells of a spot. -/
def spotCells (line : Int) (below byName : Value) (name : ByteArray) : Array Value :=
  #[.int .i64 line, .string ByteArray.empty, .int .i64 0, .int .i64 0, below, byName, .pointer none, .string name, .bool false]

/-- A key as the proof knows it: its block, its name, its line. -/
structure Spot where
  blk : Nat
  nm : ByteArray
  line : Int

/-- A pointer to block b's head; nil. -/
def ptr (o : Option Nat) : Value := .pointer (o.map fun b => ⟨b, 0, none⟩)

/-- The key's block, as it was made. -/
def KeyAt (w : World) (k : Spot) : Prop := w.heap[k.blk]? = some (.cells (spotCells k.line (.slice none 0 0) (.map none) k.nm) 42 (0, 0))

/-- How an element of the map by name reads: a pointer to the head of block b as the number b; nil as nil. -/
def ptrElem (v : Value) : Option (DataW Unit × List MemPlace) :=
  match v with
  | .pointer none => some (.nil, [])
  | .pointer (some ⟨b, 0, none⟩) => some (.lit (.int .i64 (b : Int)), [])
  | _ => none

def encO : Option Nat → DataW Unit
  | none => .nil
  | some b => .lit (.int .i64 (b : Int))

theorem ptrElem_ptr (o : Option Nat) : ptrElem (ptr o) = some (encO o, []) := by cases o <;> rfl

theorem ptrElem_inv {v : Value} {o : Option Nat} {ps : List MemPlace} (h : ptrElem v = some (encO o, ps)) : v = ptr o := by
  unfold ptrElem at h
  split at h
  · cases o
    · rfl
    · simp [encO] at h
  · cases o
    · simp [encO] at h
    · simp [encO] at h
      simp [ptr]
  · cases h

/-- What the map by name reads as, the keys ks having been put into it in order. -/
def byNameOf (ks : List Spot) : DataW Unit := ks.foldl (fun m k => m.put (.string k.nm.data.toList) (encO (some k.blk))) (.map [])

theorem byNameOf_snoc (ks : List Spot) (k : Spot) : byNameOf (ks ++ [k]) = (byNameOf ks).put (.string k.nm.data.toList) (encO (some k.blk)) := by simp [byNameOf, List.foldl_append]

theorem law9 : Keyed Try.prog 9 := string_keyed Try.underlying9
theorem zero25 (w : World) : (zeroValue 25).run Try.prog w = .ok (.pointer none) w := by kernel_rfl
theorem Try.info25 : (Try.prog.info? 25).map (fun i => (i.zero, i.size, i.bytes)) = some (some (.pointer none), 1, 8) := by kernel_rfl

/-- Below block 'base' all is as it was, but for block T. -/
structure KeptT (base T : Nat) (w w' : World) : Prop where
  os : w'.os = w.os
  tape : w'.tape = w.tape
  output : w'.output = w.output
  size : w.heap.size ≤ w'.heap.size
  block : ∀ k, k < base → k ≠ T → w'.heap[k]? = w.heap[k]?

theorem KeptT.refl (base T : Nat) (w : World) : KeptT base T w w := ⟨rfl, rfl, rfl, Nat.le_refl _, fun _ _ _ => rfl⟩
theorem KeptT.trans {base T : Nat} {a b c : World} (h : KeptT base T a b) (k : KeptT base T b c) : KeptT base T a c :=
  ⟨k.os.trans h.os, k.tape.trans h.tape, k.output.trans h.output, Nat.le_trans h.size k.size, fun i hi hT => (k.block i hi hT).trans (h.block i hi hT)⟩
theorem KeptT.below {base T B : Nat} {w w' : World} (h : KeptT base T w w') (hB : B ≤ T) (hT : T < base) : Below B w w' :=
  ⟨h.os, h.tape, h.output, h.size, fun k hk => h.block k (by omega) (by omega)⟩
theorem KeptT.of_below {base T : Nat} {w w' : World} (h : Below base w w') : KeptT base T w w' := ⟨h.os, h.tape, h.output, h.size, fun k hk _ => h.block k hk⟩
theorem KeptT.grown {base T : Nat} {w w' : World} {row : Option Nat} (hg : w.grownBy w' row) (hB : base ≤ w.heap.size) (hr : ∀ k, row = some k → base ≤ k) : KeptT base T w w' :=
  ⟨hg.os, hg.tape, hg.output, hg.size, fun k hk _ => hg.block k (by omega) (fun e => by have := hr k e.symm; omega)⟩
theorem KeptT.setCell {base T : Nat} (w : World) {p : Addr} (hp : p.block = T) (u : Value) : KeptT base T w (w.setCell p u) :=
  ⟨rfl, rfl, rfl, by simp, fun k _ hT => Below.heap_setCell _ _ _ _ (by omega)⟩
theorem KeptT.cell {base T : Nat} {w w' : World} (h : KeptT base T w w') {p : Addr} (hp : p.block < base) (hT : p.block ≠ T) : w'.cell? p = w.cell? p := World.cell?_of_block (h.block p.block hp hT)

theorem KeptT.undrew {base T : Nat} {w w' : World} (h : KeptT base T w.drew w') : KeptT base T w w' := ⟨h.os, h.tape, h.output, h.size, h.block⟩

/-- THE TABLE: block T; the row of its keys' pointers; each key's block. -/
structure TabM (w : World) (base T : Nat) (ks : List Spot) (v m : Value) : Prop where
  lt : T < base
  size : base ≤ w.heap.size
  block : w.heap[T]? = some (.cells (spotCells 0 v m ByteArray.empty) 42 (0, 0))
  row : w.ownsRow base 25 1 v ks.length (ks.map fun k => ptr (some k.blk))
  keys : ∀ k ∈ ks, base ≤ k.blk ∧ k.nm.size ≤ maxLen ∧ KeyAt w k

/-- The map by name is there, and holds ks. -/
def HasMap (w : World) (base : Nat) (m : Value) (ks : List Spot) : Prop := ∃ B n, m = .map (some B) ∧ base ≤ B ∧ n ≤ ks.length ∧ w.ownsMap Try.prog 9 ptrElem B n (byNameOf ks)

/-- THE TABLE AND ITS MAP: none up to sixteen keys. -/
def Tab (w : World) (base T : Nat) (ks : List Spot) : Prop :=
  ∃ v m, TabM w base T ks v m ∧ (ks.length ≤ 16 → m = .map none) ∧ (16 < ks.length → HasMap w base m ks)

section
variable {w w' : World} {base T : Nat} {ks : List Spot} {v m : Value}

theorem TabM.cell4 (h : TabM w base T ks v m) : w.cell? ⟨T, 4, none⟩ = some v := by simp [World.cell?, h.block, spotCells]
theorem TabM.cell5 (h : TabM w base T ks v m) : w.cell? ⟨T, 5, none⟩ = some m := by simp [World.cell?, h.block, spotCells]
theorem TabM.frz (h : TabM w base T ks v m) (j : Nat) : w.frozen? ⟨T, j, none⟩ = false := by simp [World.frozen?, h.block]
theorem KeyAt.line {k : Spot} (h : KeyAt w k) : w.cell? ⟨k.blk, 0, none⟩ = some (.int .i64 k.line) := by unfold KeyAt at h; simp [World.cell?, h, spotCells]
theorem KeyAt.name {k : Spot} (h : KeyAt w k) : w.cell? ⟨k.blk, 7, none⟩ = some (.string k.nm) := by unfold KeyAt at h; simp [World.cell?, h, spotCells]
theorem KeyAt.lt {k : Spot} (h : KeyAt w k) : k.blk < w.heap.size := lt_of_block h

theorem TabM.shape (h : TabM w base T ks v m) : ∃ ao cap, v = .slice ao ks.length cap := by
  obtain ⟨_, hc⟩ := h.row
  rcases hc with ⟨rfl, h0⟩ | ⟨g, cap, _, rfl, _⟩
  · exact ⟨none, 0, by rw [h0]⟩
  · exact ⟨_, _, rfl⟩

/-- Where the table has a key, its row is a block. -/
theorem TabM.shape_pos (h : TabM w base T ks v m) (hp : 0 < ks.length) : ∃ g cap, v = .slice (some ⟨g, 0, none⟩) ks.length cap := by
  obtain ⟨_, hc⟩ := h.row
  rcases hc with ⟨rfl, h0⟩ | ⟨g, cap, _, rfl, _⟩
  · omega
  · exact ⟨_, _, rfl⟩

theorem TabM.cellAt {g n cap : Nat} (h : TabM w base T ks (.slice (some ⟨g, 0, none⟩) n cap) m) (j : Nat) (k : Spot) (hj : ks[j]? = some k) : w.cell? ⟨g, j, none⟩ = some (ptr (some k.blk)) := by
  have hn : n = ks.length := by
    obtain ⟨_, _, e⟩ := h.shape
    simp at e
    exact e.2.1
  subst hn
  have hlt : j < ks.length := (List.getElem?_eq_some_iff.1 hj).1
  rw [h.row.cellAt j (by omega), List.getElem?_map, hj]
  rfl

/-- A key's block is no row of pointers. -/
theorem KeyAt.ne_row {k : Spot} (hk : KeyAt w k) {n : Nat} {xs : List Value} (hr : w.ownsRow base 25 1 v n xs) : some k.blk ≠ v.ownBlock := by
  intro e
  obtain ⟨_, hc⟩ := hr
  rcases hc with ⟨rfl, _⟩ | ⟨g, cap, cur, rfl, _, hg, _⟩
  · simp [Value.ownBlock] at e
  · simp [Value.ownBlock] at e
    subst e
    unfold KeyAt at hk
    rw [hg] at hk
    simp at hk

theorem KeyAt.ne_map {k : Spot} (hk : KeyAt w k) {B n : Nat} {D : DataW Unit} (hm : w.ownsMap Try.prog 9 ptrElem B n D) : k.blk ≠ B := by
  intro e
  obtain ⟨es, c, hb, _⟩ := hm
  subst e
  unfold KeyAt at hk
  rw [hb] at hk
  simp at hk

theorem row_ne_map {n : Nat} {xs : List Value} (hr : w.ownsRow base 25 1 v n xs) {B c : Nat} {D : DataW Unit} (hm : w.ownsMap Try.prog 9 ptrElem B c D) : v.ownBlock ≠ some B := by
  intro e
  obtain ⟨es, c, hb, _⟩ := hm
  obtain ⟨_, hc⟩ := hr
  rcases hc with ⟨rfl, _⟩ | ⟨g, cap, cur, rfl, _, hg, _⟩
  · simp [Value.ownBlock] at e
  · simp [Value.ownBlock] at e
    subst e
    rw [hg] at hb
    simp at hb

theorem KeyAt.of_block {k : Spot} (hk : KeyAt w k) (hb : w'.heap[k.blk]? = w.heap[k.blk]?) : KeyAt w' k := hb.trans hk

/-- New blocks, and writes to a block 'row' that is no part of the table. -/
theorem TabM.grown {row : Option Nat} (h : TabM w base T ks v m) (hg : w.grownBy w' row) (hT : some T ≠ row) (hv : v.ownBlock = none ∨ v.ownBlock ≠ row) (hk : ∀ k ∈ ks, some k.blk ≠ row) : TabM w' base T ks v m :=
  ⟨h.lt, Nat.le_trans h.size hg.size, (hg.block T (by have := h.lt; have := h.size; omega) hT).trans h.block, h.row.kept hg hv,
    fun k hm => ⟨(h.keys k hm).1, (h.keys k hm).2.1, (h.keys k hm).2.2.of_block (hg.block _ (h.keys k hm).2.2.lt (hk k hm))⟩⟩

theorem TabM.alloc (h : TabM w base T ks v m) (o : Obj) : TabM (w.alloc o) base T ks v m :=
  h.grown (World.grownBy_alloc w o none) (by simp) (by cases v.ownBlock <;> simp) (by simp)

theorem TabM.drew (h : TabM w base T ks v m) : TabM w.drew base T ks v m := ⟨h.lt, h.size, h.block, h.row, h.keys⟩

/-- A store into the table's own block: the row's cell, or the map's. -/
theorem heap_set4 {u : Value} (h : w.heap[T]? = some (.cells (spotCells 0 v m ByteArray.empty) 42 (0, 0))) : (w.setCell ⟨T, 4, none⟩ u).heap[T]? = some (.cells (spotCells 0 u m ByteArray.empty) 42 (0, 0)) := by
  rw [heap_setCell_same w T 4 _ 42 u h]; rfl
theorem heap_set5 {u : Value} (h : w.heap[T]? = some (.cells (spotCells 0 v m ByteArray.empty) 42 (0, 0))) : (w.setCell ⟨T, 5, none⟩ u).heap[T]? = some (.cells (spotCells 0 v u ByteArray.empty) 42 (0, 0)) := by
  rw [heap_setCell_same w T 5 _ 42 u h]; rfl

theorem TabM.set5 (h : TabM w base T ks v m) (u : Value) : TabM (w.setCell ⟨T, 5, none⟩ u) base T ks v u :=
  ⟨h.lt, by simpa using h.size, heap_set5 h.block, ownsRow_setCell_below h.row (a := ⟨T, 5, none⟩) h.lt u,
    fun k hm => ⟨(h.keys k hm).1, (h.keys k hm).2.1, (h.keys k hm).2.2.of_block (Below.heap_setCell _ _ _ _ (by have := (h.keys k hm).1; have := h.lt; show k.blk ≠ T; omega))⟩⟩

theorem ownsMap_setCell {B n : Nat} {D : DataW Unit} (hm : w.ownsMap Try.prog 9 ptrElem B n D) {a : Addr} (ha : B ≠ a.block) (u : Value) : (w.setCell a u).ownsMap Try.prog 9 ptrElem B n D := by
  obtain ⟨es, c, hb, r⟩ := hm
  exact ⟨es, c, (Below.heap_setCell _ _ _ _ ha).trans hb, r⟩

/-- 'sp.below = append(sp.below, k)': w1: the world behind the append; v': the new slice. -/
theorem TabM.push {k : Spot} {w1 : World} {v' : Value} {o : Obj} (h : TabM w base T ks v m) (hk : base ≤ k.blk ∧ k.nm.size ≤ maxLen ∧ KeyAt w k)
    (hown : w1.ownsRow base 25 1 v' (ks.length + 1) ((ks.map fun k => ptr (some k.blk)) ++ [ptr (some k.blk)])) (hg : (w.alloc o).grownBy w1 v.ownBlock) :
    TabM (w1.setCell ⟨T, 4, none⟩ v') base T (ks ++ [k]) v' m ∧ KeptT base T w (w1.setCell ⟨T, 4, none⟩ v') := by
  have hT : some T ≠ v.ownBlock := fun e => by have := (h.row.lt T e.symm).1; have := h.lt; omega
  have h1 : ∀ k', base ≤ k'.blk → KeyAt w k' → KeyAt (w1.setCell ⟨T, 4, none⟩ v') k' := fun k' hb hk' => by
    have e1 := (KeyAt.of_block (w' := w.alloc o) hk' (Below.heap_alloc _ _ _ hk'.lt))
    have e2 := e1.of_block (hg.block _ e1.lt (hk'.ne_row h.row))
    exact e2.of_block (Below.heap_setCell _ _ _ _ (by have := h.lt; show k'.blk ≠ T; omega))
  have hsz : w.heap.size ≤ w1.heap.size := by have := hg.size; simp at this; omega
  refine ⟨⟨h.lt, ?_, ?_, ?_, ?_⟩, ?_⟩
  · have := h.size; simp; omega
  · refine heap_set4 (v := v) ?_
    rw [hg.block T (by have := h.lt; have := h.size; simp; omega) hT]
    exact (Below.heap_alloc _ _ _ (by have := h.lt; have := h.size; omega)).trans h.block
  · have := ownsRow_setCell_below hown (a := ⟨T, 4, none⟩) h.lt v'
    simpa using this
  · intro k' hk'
    rcases List.mem_append.1 hk' with hk' | hk'
    · exact ⟨(h.keys k' hk').1, (h.keys k' hk').2.1, h1 k' (h.keys k' hk').1 (h.keys k' hk').2.2⟩
    · obtain rfl : k' = k := by simpa using hk'
      exact ⟨hk.1, hk.2.1, h1 k' hk.1 hk.2.2⟩
  · exact ((KeptT.grown (World.grownBy_alloc w o none) h.size (by simp)).trans (KeptT.grown hg (by have := h.size; simp; omega) (fun k hk => (h.row.lt k hk).1))).trans (KeptT.setCell (p := ⟨T, 4, none⟩) w1 rfl v')

/-- The table's block behind the append, ahead of the store. -/
theorem TabM.block1 {w1 : World} {o : Obj} (h : TabM w base T ks v m) (hg : (w.alloc o).grownBy w1 v.ownBlock) : w1.heap[T]? = some (.cells (spotCells 0 v m ByteArray.empty) 42 (0, 0)) := by
  have hT : some T ≠ v.ownBlock := fun e => by have := (h.row.lt T e.symm).1; have := h.lt; omega
  rw [hg.block T (by have := h.lt; have := h.size; simp; omega) hT]
  exact (Below.heap_alloc _ _ _ (by have := h.lt; have := h.size; omega)).trans h.block

theorem cells_of_block (h : w.heap[T]? = some (.cells (spotCells 0 v m ByteArray.empty) 42 (0, 0))) : w.cell? ⟨T, 4, none⟩ = some v ∧ w.cell? ⟨T, 5, none⟩ = some m ∧ w.frozen? ⟨T, 4, none⟩ = false ∧ w.frozen? ⟨T, 5, none⟩ = false := by
  simp [World.cell?, World.frozen?, h, spotCells]

end

end Go.Proofs.Qxb6600503a
