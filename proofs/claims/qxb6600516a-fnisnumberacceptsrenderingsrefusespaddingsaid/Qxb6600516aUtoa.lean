/-
  zzB1Utoa (function 10).
-/
import Derived.Test.Qxb6600516aNum
import Derived.Laws.BytesArg
namespace Go.Proofs.Qxb6600516a
open Go.RowKit

/-- It returned a decimal number's text, of at most twenty bytes. -/
def RetNum (e : Ending) : Prop := ∃ r : ByteArray, e = .returned (.string r) ∧ isNum r.data.toList = true ∧ r.size ≤ 20

/-- WHAT HOLDS AT EACH ROUND's HEAD: v is what is left of the number; from place k on the buffer at block B holds the digits ds. -/
structure Buf (w wr : World) (B k v : Nat) (ds : List Int) : Prop where
  block : ∃ cur : Array Value, wr.heap[B]? = some (.cells cur 30 (0, 0)) ∧ cur.size = 20
  len : k + ds.length = 20
  cell : ∀ i, i < ds.length → wr.cell? ⟨B, k + i, none⟩ = some (.int .u8 (ds.getD i 0))
  digit : ∀ d ∈ ds, 48 ≤ d ∧ d ≤ 57
  lead : v = 0 → ∃ d r, ds = d :: r ∧ d ≠ 48
  small : v < 10 ^ k
  below : Below B w wr

theorem buf_start (w : World) (n : Nat) (hn : n < 18446744073709551616) (hp : 0 < n) (cur : Array Value) (hc : cur.size = 20) : Buf w (w.alloc (.cells cur 30)) w.heap.size 20 n [] :=
  ⟨⟨cur, heap_alloc_new w _, hc⟩, rfl, by intro i hi; simp at hi, by simp, fun h => by omega, by omega, (Below.refl _ _).alloc (Nat.le_refl _) _⟩

theorem Buf.cellAt {w wr : World} {B k v : Nat} {ds : List Int} (h : Buf w wr B k v ds) {j : Nat} (hj : j < 20) : (∃ u, wr.cell? ⟨B, j, none⟩ = some u) ∧ wr.frozen? ⟨B, j, none⟩ = false := by
  obtain ⟨cur, hb, hc⟩ := h.block
  refine ⟨⟨cur[j]'(by omega), ?_⟩, ?_⟩
  · simp [World.cell?, hb, hc, hj]
  · simp [World.frozen?, hb]

theorem Buf.step {w wr : World} {B m v : Nat} {ds : List Int} (h : Buf w wr B (m + 1) v ds) (hv : 0 < v) : Buf w (wr.setCell ⟨B, m, none⟩ (.int .u8 (48 + (v : Int) % 10))) B m (v / 10) ((48 + (v : Int) % 10) :: ds) := by
  obtain ⟨cur, hb, hc⟩ := h.block
  have hl := h.len
  refine ⟨⟨_, heap_setCell_same wr B m cur 30 _ hb, by simpa using hc⟩, by simp; omega, ?_, ?_, ?_, ?_, h.below.setCell (Nat.le_refl _) _⟩
  · intro i hi
    cases i with
    | zero =>
      obtain ⟨u, hu⟩ := (h.cellAt (j := m) (by omega)).1
      simpa using World.cell?_setCell_same wr _ (.int .u8 (48 + (v : Int) % 10)) hu
    | succ i =>
      have := h.cell i (by simpa using hi)
      rw [World.cell?_setCell_other _ _ _ _ (by simp)]
      rw [show m + (i + 1) = m + 1 + i by omega, this]
      simp
  · intro d hd
    rcases List.mem_cons.1 hd with rfl | hd
    · omega
    · exact h.digit d hd
  · intro h0
    exact ⟨_, ds, rfl, by omega⟩
  · have := h.small
    rw [Nat.pow_succ] at this
    omega

/-- The text behind the loop. -/
theorem num_of_digits {d : Int} {r : List Int} (hd : d ≠ 48) (hall : ∀ x ∈ d :: r, 48 ≤ x ∧ x ≤ 57) : isNum (strOfNums (d :: r)).data.toList = true := by
  rw [strOfNums_data, List.map_cons]
  have e : ∀ x : Int, 48 ≤ x ∧ x ≤ 57 → (UInt8.ofNat x.toNat).toNat = x.toNat := fun x hx => by rw [UInt8.toNat_ofNat']; omega
  refine isNum_of_digits _ _ ?_ ?_
  · intro h
    have h1 := congrArg UInt8.toNat h
    rw [e d (hall d (by simp))] at h1
    have h2 := hall d (by simp)
    have h3 : (48 : UInt8).toNat = 48 := rfl
    rw [h3] at h1
    omega
  · intro x hx
    rw [← List.map_cons (f := fun n : Int => UInt8.ofNat n.toNat)] at hx
    obtain ⟨y, hy, rfl⟩ := List.mem_map.1 hx
    have h2 := hall y hy
    exact dg_yes (by rw [e y h2]; omega) (by rw [e y h2]; omega)

theorem Try.len30 : Try.prog.arrayLen 30 = 20 := by kernel_rfl
theorem Try.elem30 : Try.prog.elem 30 = 5 := by kernel_rfl
theorem Try.size5 (w : World) : (sizeOf 5).run Try.prog w = .ok 1 w := by kernel_rfl

theorem slice_buf (B k : Nat) (w : World) (hk : k < 20) : (Instr.sliceAt 30 (.pointer (some ⟨B, 0, none⟩)) (some (.int .i64 k)) none none).run Try.prog w = .ok (.slice (some ⟨B, k, none⟩) (20 - k) (20 - k)) w := by
  rw [run_sliceAt_array_l w 30 ⟨B, 0, none⟩ (by rw [Try.len30, Try.elem30]; exact Try.underlying30) .i64 k (by omega) (by rw [Try.len30]; omega), Try.elem30, Try.size5, Try.len30]
  simp only [Result.andThen, slicedAt, Int.toNat_natCast]
  rw [if_neg (by omega)]
  simp [Addr.add]
  omega

set_option maxHeartbeats 1000000 in
set_option maxRecDepth 100000 in
theorem utoa10 (n : Nat) (w : World) (hn : n < 18446744073709551616) (hp : 0 < n) :
    Calls Try.prog 10 #[.int .u64 n] w fun e w' => RetNum e ∧ Below w.heap.size w w' := by
  have hb : ((n : Int) == 0) = false := by simp; omega
  have H0 := hid (buf_start w n hn hp)
  have HN := hid hn
  clear hn
  go_enter Try.func10, Try.ntmps10
  go_wp2
  go_loopw [0, 4] (fun x i wr => ∃ (v k : Nat) (ds : List Int), v ≤ n ∧ x = .int .u64 v ∧ i = .int .i64 k ∧ Buf w wr w.heap.size k v ds) (fun x _ _ => (intOf x).toNat)
  case atStart => exact ⟨n, 20, [], Nat.le_refl _, rfl, rfl, H0.out _ rfl⟩
  case round =>
    obtain ⟨v, k, ds, hvn, rfl, rfl, hB⟩ := hrel
    clear H0
    by_cases hv : 0 < v
    · have hk : 0 < k := by
        have := hB.small
        cases k with
        | zero => simp at this; omega
        | succ k => omega
      obtain ⟨m, hm⟩ : ∃ m, k = m + 1 := ⟨k - 1, by omega⟩
      subst hm
      have hlen := hB.len
      have hm20 : m < 20 := by omega
      obtain ⟨⟨u, hu⟩, hf⟩ := hB.cellAt hm20
      have HS := hid (hB.step hv)
      have hd1 : 0 ≤ (v : Int) % 10 := by omega
      have hd2 : (v : Int) % 10 ≤ 9 := by omega
      have hvb : (v : Int) ≤ 18446744073709551615 := by have := HN.out; omega
      clear hB hk hlen
      go_wp2
      go_roundw
      case rel => exact ⟨v / 10, m, _, by omega, by go_num, by go_num, HS.out⟩
      case measure => simp [intOf]; omega
    · have hv0 : v = 0 := by omega
      obtain ⟨d, r, hds, hd⟩ := hB.lead hv0
      have hlen := hB.len
      have hk20 : k < 20 := by rw [hds] at hlen; simp at hlen; omega
      have HV : Hid (isNum (strOfNums ds).data.toList = true) := by rw [hds]; exact num_of_digits hd (by rw [← hds]; exact hB.digit)
      have HZ : Hid ((strOfNums ds).size ≤ 20) := by rw [strOfNums_size]; exact hid (by omega)
      have hconv := run_convert_bytes_arg (P := Try.prog) wr 28 5 Try.underlying28 Try.underlying5 w.heap.size k ds.length ds.length ds rfl hB.cell 9 Try.underlying9
      have HBW := hid hB.below
      have HL := hid hlen
      have hdl : ds.length = 20 - k := by omega
      rw [hdl] at hconv
      clear hB hds hd hlen hdl
      have hsl := slice_buf w.heap.size k wr hk20
      generalize strOfNums ds = t at *
      go_wp2
      go_ret
      exact ⟨⟨t, rfl, HV.out, HZ.out⟩, HBW.out⟩

set_option maxRecDepth 100000 in
theorem utoa_zero (w : World) : Calls Try.prog 10 #[.int .u64 0] w fun e w' => RetNum e ∧ Below w.heap.size w w' := by
  go_enter Try.func10, Try.ntmps10
  go_wp2
  go_ret
  exact ⟨⟨_, rfl, by decide, by decide⟩, Below.refl _ _⟩

theorem utoa_any (n : Nat) (w : World) (hn : n < 18446744073709551616) : Calls Try.prog 10 #[.int .u64 n] w fun e w' => RetNum e ∧ Below w.heap.size w w' := by
  cases n with
  | zero => exact utoa_zero w
  | succ n => exact utoa10 (n + 1) w hn (by omega)

end Go.Proofs.Qxb6600516a
