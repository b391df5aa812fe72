import Derived.Test.YbulkaqsgNew
namespace Go.Proofs.Ybulkaqsg
open Go.ChangeShapes Go.WideShapes Go.ChangeAt Go.RowKit
set_option linter.unusedVariables false

/-- A slice of ints: its elements are ss. -/
def IntsAt (w : World) (a : Option Addr) (ss : List Int) : Prop :=
  ss.length = 0 ∨ ∃ g off, a = some ⟨g, off, none⟩ ∧ ∀ i, i < ss.length → w.cell? ⟨g, off + i, none⟩ = some (.int .i64 (ss.getD i 0))

theorem IntsAt.later {w w' : World} {a : Option Addr} {ss : List Int} (h : IntsAt w a ss) (hb : Below w.heap.size w w') : IntsAt w' a ss := by
  rcases h with h | ⟨g, off, rfl, h⟩
  · exact .inl h
  · exact .inr ⟨g, off, rfl, fun i hi => old_cell hb (h i hi)⟩

/-- A block of n signatures of which the first k have been filled in. -/
def SigRow (w : World) (B n : Nat) (ss : List Int) (k : Nat) : Prop :=
  ∃ cur : Array Value, w.heap[B]? = some (Obj.cells cur 31 (0, 0)) ∧ cur.size = n * 2 ∧ ∀ i, i < k → cur[i * 2]? = some (.int .i64 (ss.getD i 0)) ∧ cur[i * 2 + 1]? = some (.slice none 0 0)

theorem SigRow.cells {w : World} {B n k : Nat} {ss : List Int} (h : SigRow w B n ss k) (j : Nat) (hj : j < n * 2) : (∃ v, w.cell? ⟨B, j, none⟩ = some v) ∧ w.frozen? ⟨B, j, none⟩ = false := by
  obtain ⟨cur, h1, h2, _⟩ := h
  refine ⟨⟨cur[j], ?_⟩, frozen_of_row w B j cur 31 h1⟩
  rw [cell_of_row w B j cur 31 (0, 0) h1]
  simp [h2, hj]

theorem SigRow.store {w : World} {B n k : Nat} {ss : List Int} (h : SigRow w B n ss k) (hk : k < n) : SigRow ((w.setCell ⟨B, k * 2, none⟩ (.int .i64 (ss.getD k 0))).setCell ⟨B, k * 2 + 1, none⟩ (.slice none 0 0)) B n ss (k + 1) := by
  obtain ⟨cur, h1, h2, h3⟩ := h
  have g1 := heap_setCell_same w B (k * 2) cur 31 (.int .i64 (ss.getD k 0)) h1
  have g2 := heap_setCell_same _ B (k * 2 + 1) _ 31 (.slice none 0 0) g1
  refine ⟨_, g2, by simp [h2], fun i hi => ?_⟩
  rcases Nat.lt_succ_iff_lt_or_eq.1 hi with hlt | rfl
  · obtain ⟨e1, e2⟩ := h3 i hlt
    constructor
    · rw [Array.getElem?_setIfInBounds_ne (by omega), Array.getElem?_setIfInBounds_ne (by omega)]; exact e1
    · rw [Array.getElem?_setIfInBounds_ne (by omega), Array.getElem?_setIfInBounds_ne (by omega)]; exact e2
  · constructor
    · rw [Array.getElem?_setIfInBounds_ne (by omega), Array.getElem?_setIfInBounds_self_of_lt (by omega)]
    · rw [Array.getElem?_setIfInBounds_self_of_lt (by simp; omega)]

theorem SigRow.done {w : World} {B : Nat} {ss : List Int} (h : SigRow w B ss.length ss ss.length) : SigsAt w (some ⟨B, 0, none⟩) ss := by
  obtain ⟨cur, h1, h2, h3⟩ := h
  refine .inr ⟨B, 0, rfl, fun i hi => ?_⟩
  rw [cell_of_row w B _ cur 31 (0, 0) h1, cell_of_row w B _ cur 31 (0, 0) h1]
  simpa using h3 i hi

theorem sig_info : (Yba.prog.info? 31).map (fun i => (i.zero, i.size, i.bytes)) = some (some (.agg #[.int .i64 0, .slice none 0 0]), 2, 32) := by kernel_rfl

set_option maxHeartbeats 1000000 in
theorem csigs_any (a : Option Addr) (cap : Nat) (ss : List Int) (w : World) (h : IntsAt w a ss) (hn : ss.length ≤ 300) :
    Calls Yba.prog 6 #[.slice a ss.length cap] w fun e w' => ∃ a' cap', e = .returned (.slice a' ss.length cap') ∧ SigsAt w' a' ss ∧ Below w.heap.size w w' := by
  obtain ⟨i0, hi, hz0, hz1, hz2⟩ := info_parts sig_info
  rcases h with h | ⟨g, off, rfl, h⟩
  · have hs : ss = [] := List.length_eq_zero_iff.1 h
    subst hs
    simp only [List.length_nil]
    clear h hn
    go_enter Yba.func6, Yba.ntmps6
    go_wp2_with (at_make; refine wpList_make_full _ rfl (.tmp 7) (.tmp 7) 25 rfl w.heap.size 31 i0 (.agg #[.int .i64 0, .slice none 0 0]) 2 Yba.underlying25 hi hz0 hz1 .i64 .i64 _ _ 0 rfl rfl rfl rfl (by omega) (by unfold maxLen; omega) (Nat.le_refl _) ?_; intro w1 hown1 hg1)
    have hbe1 : Below w.heap.size w w1 := (Below.refl _ _).grown hg1 (Nat.le_refl _) (by simp)
    clear hown1 hg1
    refine wp_loop_rounds 1 ?_
    rw [rounds_succ]
    go_wp2
    go_ret
    exact ⟨_, _, rfl, .inl rfl, hbe1⟩
  · go_enter Yba.func6, Yba.ntmps6
    go_wp2_with (at_make; refine wpList_make_full _ rfl (.tmp 7) (.tmp 7) 25 rfl w.heap.size 31 i0 (.agg #[.int .i64 0, .slice none 0 0]) 2 Yba.underlying25 hi hz0 hz1 .i64 .i64 _ _ ss.length rfl rfl rfl rfl (by rw [hz2]; omega) (by unfold maxLen; omega) (Nat.le_refl _) ?_; intro w1 hown1 hg1)
    have hbe1 : Below w.heap.size w w1 := (Below.refl _ _).grown hg1 (Nat.le_refl _) (by simp)
    have hrow : SigRow w1 w.heap.size ss.length ss 0 := by
      rcases hown1.2 with ⟨h5, _⟩ | ⟨g', cap', cur, h5, _, hh, _, _, hsz, _⟩
      · simp at h5
      · simp only [Value.slice.injEq, Option.some.injEq, Addr.mk.injEq, and_true, true_and] at h5
        obtain ⟨rfl, rfl⟩ := h5
        exact ⟨cur, hh, hsz, fun i hi => absurd hi (Nat.not_lt_zero _)⟩
    clear hown1 hg1
    go_loopw [11] (fun i wr => ∃ k : Nat, k ≤ ss.length ∧ i = .int .i64 k ∧ SigRow wr w.heap.size ss.length ss k ∧ Below w.heap.size w wr) (fun i _ => ss.length - (intOf i).toNat)
    case atStart => exact ⟨0, Nat.zero_le _, rfl, hrow, hbe1⟩
    case round =>
      obtain ⟨k, hk, rfl, hr, hbe⟩ := hrel
      clear hrow hbe1
      by_cases hlt : k < ss.length
      · have y0 := old_cell hbe (h k hlt)
        obtain ⟨⟨v0, hv0⟩, hf0⟩ := hr.cells (k * 2) (by omega)
        obtain ⟨⟨v1, hv1⟩, hf1⟩ := hr.cells (k * 2 + 1) (by omega)
        have hst := hr.store hlt
        have HS : Hid (SigRow ((wr.setCell ⟨w.heap.size, k * 2, none⟩ (.int .i64 (ss.getD k 0))).setCell ⟨w.heap.size, k * 2 + 1, none⟩ (.slice none 0 0)) w.heap.size ss.length ss (k + 1)) := hst
        clear h hst hr
        generalize ss.getD k 0 = s at *
        go_wp2
        go_roundw
        case rel => exact ⟨k + 1, by omega, by go_num, HS.out, (hbe.setCell (Nat.le_refl _) _).setCell (Nat.le_refl _) _⟩
        case measure => simp [intOf]; omega
      · have hk2 : k = ss.length := by omega
        subst hk2
        clear h
        go_wp2
        go_ret
        exact ⟨_, _, rfl, hr.done, hbe⟩

end Go.Proofs.Ybulkaqsg
