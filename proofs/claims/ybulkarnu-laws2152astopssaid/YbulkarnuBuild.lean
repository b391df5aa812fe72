import Derived.Test.YbulkarnuSkip
namespace Go.Proofs.Ybulkarnu
open Go.ChangeShapes Go.WideShapes Go.ChangeAt Go.RowKit
set_option linter.unusedVariables false

/-- A block of n bytes. -/
def BytesRow (w : World) (G n : Nat) : Prop :=
  ∃ cur : Array Value, w.heap[G]? = some (Obj.cells cur 5 (0, 0)) ∧ cur.size = n ∧ ∀ i, i < n → ∃ c : Int, cur[i]? = some (.int .u8 c)

theorem BytesRow.spot {w : World} {G n : Nat} (h : BytesRow w G n) (j : Nat) (hj : j < n) : (∃ c, w.cell? ⟨G, j, none⟩ = some (.int .u8 c)) ∧ w.frozen? ⟨G, j, none⟩ = false := by
  obtain ⟨cur, h1, h2, h3⟩ := h
  obtain ⟨c, hc⟩ := h3 j hj
  exact ⟨⟨c, by rw [cell_of_row w G j cur 5 (0, 0) h1]; exact hc⟩, frozen_of_row w G j cur 5 h1⟩

theorem BytesRow.store {w : World} {G n : Nat} (h : BytesRow w G n) (j : Nat) (c : Int) : BytesRow (w.setCell ⟨G, j, none⟩ (.int .u8 c)) G n := by
  obtain ⟨cur, h1, h2, h3⟩ := h
  refine ⟨_, heap_setCell_same w G j cur 5 _ h1, by simp [h2], fun i hi => ?_⟩
  by_cases e : i = j
  · subst e
    exact ⟨c, by rw [Array.getElem?_setIfInBounds_self_of_lt (by omega)]⟩
  · obtain ⟨d, hd⟩ := h3 i hi
    exact ⟨d, by rw [Array.getElem?_setIfInBounds_ne (by omega)]; exact hd⟩

theorem BytesRow.list {w : World} {G n : Nat} (h : BytesRow w G n) : ∃ cs : List Int, ∀ i, i < n → w.cell? ⟨G, i, none⟩ = some (.int .u8 (cs.getD i 0)) := by
  obtain ⟨cur, h1, h2, h3⟩ := h
  refine ⟨cur.toList.map intOf, fun i hi => ?_⟩
  obtain ⟨c, hc⟩ := h3 i hi
  rw [cell_of_row w G i cur 5 (0, 0) h1, hc]
  have : cur.toList[i]? = some (.int .u8 c) := by simpa using hc
  simp [List.getD, this, intOf]

/-- What is told of the slice that came in. -/
def RawAt (w : World) (a : Option Addr) (zs : List Int) : Prop :=
  (∀ i, i < zs.length → 0 ≤ zs.getD i 0 ∧ zs.getD i 0 ≤ 255) ∧
  (zs.length = 0 ∨ ∃ g off, a = some ⟨g, off, none⟩ ∧ ∀ i, i < zs.length → w.cell? ⟨g, off + i, none⟩ = some (.int .u8 (zs.getD i 0)))

theorem byte_info : (Yba.prog.info? 5).map (fun i => (i.zero, i.size, i.bytes)) = some (some (.int .u8 0), 1, 1) := by kernel_rfl

theorem row_made {w : World} {base g n : Nat} (h : w.ownsRow base 5 1 (.slice (some ⟨g, 0, none⟩) n n) n (madeCells (Value.int .u8 0).cells (n * 1)).toList) : BytesRow w g n := by
  rcases h.2 with ⟨h5, _⟩ | ⟨g', cap', cur, h5, _, hh, _, _, hsz, htake⟩
  · simp at h5
  · simp only [Value.slice.injEq, Option.some.injEq, Addr.mk.injEq, and_true, true_and] at h5
    obtain ⟨rfl, rfl⟩ := h5
    refine ⟨cur, hh, by omega, fun i hi => ⟨0, ?_⟩⟩
    have hall : cur.toList = List.replicate n (.int .u8 0) := by
      have e1 : cur.toList.take (n * 1) = cur.toList := List.take_of_length_le (by rw [Array.length_toList, hsz]; exact Nat.le_refl _)
      rw [e1] at htake
      rw [htake, Nat.mul_one]
      show (madeCells #[Value.int .u8 0] n).toList = _
      exact toList_madeCells_one _ _
    have : cur.toList[i]? = some (.int .u8 0) := by rw [hall]; simp [hi]
    simpa using this

set_option maxRecDepth 100000 in
set_option maxHeartbeats 2000000 in
theorem build_any (a : Option Addr) (cap : Nat) (zs : List Int) (w : World) (h : RawAt w a zs) (hn : zs.length ≤ 1024) :
    Calls Yba.prog 5 #[.slice a zs.length cap] w fun e w' => e = .returned (.slice (some ⟨w.heap.size, 0, none⟩) zs.length zs.length) ∧ BytesRow w' w.heap.size zs.length ∧ Below w.heap.size w w' := by
  obtain ⟨i0, hi, hz0, hz1, hz2⟩ := info_parts byte_info
  obtain ⟨hbd, h⟩ := h
  rcases h with h | ⟨g, off, rfl, h⟩
  · have hs : zs = [] := List.length_eq_zero_iff.1 h
    subst hs
    simp only [List.length_nil]
    clear h hn hbd
    go_enter Yba.func5, Yba.ntmps5
    go_wp2_with (at_make; refine wpList_make_full _ rfl (.tmp 8) (.tmp 8) 22 rfl w.heap.size 5 i0 (.int .u8 0) 1 Yba.underlying22 hi hz0 hz1 .i64 .i64 _ _ 0 rfl rfl rfl rfl (by omega) (by unfold maxLen; omega) (Nat.le_refl _) ?_; intro w1 hown1 hg1)
    have hbe1 : Below w.heap.size w w1 := (Below.refl _ _).grown hg1 (Nat.le_refl _) (by simp)
    have HR : Hid (BytesRow w1 w.heap.size 0) := row_made hown1
    clear hown1 hg1
    refine wp_loop_rounds 1 ?_
    rw [rounds_succ]
    go_wp2
    go_ret
    exact ⟨rfl, HR.out, hbe1⟩
  · have HX : Hid (∀ i, i < zs.length → w.cell? ⟨g, off + i, none⟩ = some (.int .u8 (zs.getD i 0))) := h
    have HBD : Hid (∀ i, i < zs.length → 0 ≤ zs.getD i 0 ∧ zs.getD i 0 ≤ 255) := hbd
    clear h hbd
    go_enter Yba.func5, Yba.ntmps5
    go_wp2_with (at_make; refine wpList_make_full _ rfl (.tmp 8) (.tmp 8) 22 rfl w.heap.size 5 i0 (.int .u8 0) 1 Yba.underlying22 hi hz0 hz1 .i64 .i64 _ _ zs.length rfl rfl rfl rfl (by rw [hz2]; omega) (by unfold maxLen; omega) (Nat.le_refl _) ?_; intro w1 hown1 hg1)
    have hbe1 : Below w.heap.size w w1 := (Below.refl _ _).grown hg1 (Nat.le_refl _) (by simp)
    have hrow : BytesRow w1 w.heap.size zs.length := row_made hown1
    clear hown1 hg1
    go_loopw [12] (fun i wr => ∃ k : Nat, k ≤ zs.length ∧ i = .int .i64 k ∧ BytesRow wr w.heap.size zs.length ∧ Below w.heap.size w wr) (fun i _ => zs.length - (intOf i).toNat)
    case atStart => exact ⟨0, Nat.zero_le _, rfl, hrow, hbe1⟩
    case round =>
      obtain ⟨k, hk, rfl, hr, hbe⟩ := hrel
      clear hrow hbe1
      by_cases hlt : k < zs.length
      · have y0 := old_cell hbe (HX.out k hlt)
        obtain ⟨bd0, bd1⟩ := HBD.out k hlt
        obtain ⟨⟨c0, hc0⟩, hf0⟩ := hr.spot k hlt
        have HR : Hid (BytesRow wr w.heap.size zs.length) := hr
        clear hr HX HBD
        generalize zs.getD k 0 = z at *
        go_wp2
        go_roundw
        case rel => exact ⟨k + 1, by omega, by go_num, HR.out.store _ _, hbe.setCell (p := ⟨w.heap.size, k, none⟩) (Nat.le_refl _) _⟩
        case measure => simp [intOf]; omega
      · clear HX HBD
        go_wp2
        go_ret
        exact ⟨rfl, hr, hbe⟩

end Go.Proofs.Ybulkarnu
