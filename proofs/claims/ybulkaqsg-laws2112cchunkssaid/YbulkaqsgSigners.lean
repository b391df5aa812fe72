import Derived.Test.YbulkaqsgInto
namespace Go.Proofs.Ybulkaqsg
open Go.ChangeShapes Go.WideShapes Go.ChangeAt Go.RowKit
set_option linter.unusedVariables false

/-- A block of ints in which those from place k on hold the signers of l (in signing order). -/
def NumsFrom (w : World) (G : Nat) (l : List Int) (k : Nat) : Prop :=
  ∃ cur : Array Value, w.heap[G]? = some (Obj.cells cur 3 (0, 0)) ∧ cur.size = l.length ∧ ∀ i, k ≤ i → i < l.length → cur[i]? = some (.int .i64 (l.reverse.getD i 0))

theorem NumsFrom.cells {w : World} {G k : Nat} {l : List Int} (h : NumsFrom w G l k) (j : Nat) (hj : j < l.length) : (∃ v, w.cell? ⟨G, j, none⟩ = some v) ∧ w.frozen? ⟨G, j, none⟩ = false := by
  obtain ⟨cur, h1, h2, _⟩ := h
  refine ⟨⟨cur[j], ?_⟩, frozen_of_row w G j cur 3 h1⟩
  rw [cell_of_row w G j cur 3 (0, 0) h1]
  simp [h2, hj]

theorem NumsFrom.store_at {w : World} {G n : Nat} {l d r : List Int} {s : Int} (h : NumsFrom w G l (n + 1)) (hl : l = d ++ s :: r) (hn : r.length = n) :
    NumsFrom (w.setCell ⟨G, n, none⟩ (.int .i64 s)) G l n := by
  obtain ⟨cur, h1, h2, h3⟩ := h
  refine ⟨_, heap_setCell_same w G n cur 3 (.int .i64 s) h1, by simp [h2], fun i hi hil => ?_⟩
  by_cases e : i = n
  · subst e
    have hlt : i < cur.size := by omega
    rw [Array.getElem?_setIfInBounds_self_of_lt hlt]
    subst hl; subst hn
    rw [rev_at]
  · rw [Array.getElem?_setIfInBounds_ne (by omega)]
    exact h3 i (by omega) hil

theorem NumsFrom.done {w : World} {G : Nat} {l : List Int} (h : NumsFrom w G l 0) (i : Nat) (hi : i < l.length) : w.cell? ⟨G, i, none⟩ = some (.int .i64 (l.reverse.getD i 0)) := by
  obtain ⟨cur, h1, h2, h3⟩ := h
  rw [cell_of_row w G _ cur 3 (0, 0) h1]
  exact h3 i (Nat.zero_le _) hi

theorem int_info : (Yba.prog.info? 3).map (fun i => (i.zero, i.size, i.bytes)) = some (some (.int .i64 0), 1, 8) := by kernel_rfl

set_option maxRecDepth 100000 in
set_option maxHeartbeats 2000000 in
theorem signers_any (b : Nat) (O : ByteArray) (l : List Int) (w : World) (h : ChainAt w O b l) (hn : l.length ≤ 300) :
    Calls Yba.prog 9 #[.pointer (some ⟨b, 0, none⟩)] w fun e w' => ∃ G, e = .returned (.slice (some ⟨G, 0, none⟩) l.length l.length) ∧ (∀ i, i < l.length → w'.cell? ⟨G, i, none⟩ = some (.int .i64 (l.reverse.getD i 0))) ∧ Below w.heap.size w w' := by
  obtain ⟨i0, hi, hz0, hz1, hz2⟩ := info_parts int_info
  obtain ⟨pr, s0, hh⟩ := h.head
  have c5 : w.cell? ⟨b, 5, none⟩ = some (.int .i64 (l.length : Int)) := ch_cell hh 5
  have hnl : (l.length : Int) ≤ 300 := by omega
  go_enter Yba.func9, Yba.ntmps9
  go_wp2_with (at_make; refine wpList_make_full _ rfl (.tmp 11) (.tmp 11) 22 rfl w.heap.size 3 i0 (.int .i64 0) 1 Yba.underlying22 hi hz0 hz1 .i64 .i64 _ _ l.length rfl rfl rfl rfl (by rw [hz2]; omega) (by unfold maxLen; omega) (Nat.le_refl _) ?_; intro w1 hown1 hg1)
  have hb1 : Below w.heap.size w w1 := (Below.refl _ _).grown hg1 (Nat.le_refl _) (by simp)
  have hrow : NumsFrom w1 w.heap.size l l.length := by
    rcases hown1.2 with ⟨h5, _⟩ | ⟨g', cap', cur, h5, _, hh, _, _, hsz, _⟩
    · simp at h5
    · simp only [Value.slice.injEq, Option.some.injEq, Addr.mk.injEq, and_true, true_and] at h5
      obtain ⟨rfl, rfl⟩ := h5
      exact ⟨cur, hh, by omega, fun i h1 h2 => absurd h1 (by omega)⟩
  clear hown1 hg1
  go_loopw [4] (fun p wr => ∃ (b' : Nat) (l' d : List Int), p = .pointer (some ⟨b', 0, none⟩) ∧ ChainAt w O b' l' ∧ l = d ++ l' ∧ NumsFrom wr w.heap.size l l'.length ∧ Below w.heap.size w wr) (fun p _ => lenOfP w p)
  case atStart => exact ⟨b, l, [], rfl, h, rfl, hrow, hb1⟩
  case round =>
    obtain ⟨b', l', d, rfl, hch, hld, hr, hbe⟩ := hrel
    clear hrow hb1
    have hlen' : l'.length ≤ l.length := by rw [hld]; simp
    cases l' with
    | nil =>
      have q5 := old_cell hbe (ch_cell hch 5)
      simp only [chCells] at q5
      have HL : Hid (∀ i, i < l.length → wr.cell? ⟨w.heap.size, i, none⟩ = some (.int .i64 (l.reverse.getD i 0))) := hr.done
      clear hch hld hr
      go_wp2
      go_ret
      exact ⟨_, rfl, HL.out, hbe⟩
    | cons s r =>
      have HM : Hid (lenOfP w (.pointer (some ⟨b', 0, none⟩)) = r.length + 1) := lenOfP_chain hch
      obtain ⟨b2, hh2, hch2⟩ := hch
      have HM2 : Hid (lenOfP w (.pointer (some ⟨b2, 0, none⟩)) = r.length) := lenOfP_chain hch2
      have q1 : wr.cell? ⟨b', 1, none⟩ = some (.pointer (some ⟨b2, 0, none⟩)) := old_cell hbe (ch_cell hh2 1)
      have q2 : wr.cell? ⟨b', 2, none⟩ = some (.int .i64 s) := old_cell hbe (ch_cell hh2 2)
      have q5 : wr.cell? ⟨b', 5, none⟩ = some (.int .i64 ((r.length : Int) + 1)) := old_cell hbe (ch_cell hh2 5)
      have q6 : wr.cell? ⟨b', 6, none⟩ = some (.slice none 0 0) := old_cell hbe (ch_cell hh2 6)
      have hbl : b' < w.heap.size := (Array.getElem?_eq_some_iff.1 hh2).1
      have HD : Hid (l = d ++ s :: r) := hld
      have HCH : Hid (ChainAt w O b2 r) := hch2
      simp only [List.length_cons] at hr hlen'
      obtain ⟨⟨v0, hv0⟩, hf0⟩ := hr.cells r.length (by omega)
      have HS : Hid (NumsFrom (wr.setCell ⟨w.heap.size, r.length, none⟩ (.int .i64 s)) w.heap.size l r.length) := hr.store_at hld rfl
      have i1 : (r.length : Int) + 1 ≤ (l.length : Int) := by omega
      clear hh2 hch2 hld hr
      go_wp2
      go_region
      go_wp2
      go_roundw
      case rel => exact ⟨b2, r, d ++ [s], rfl, HCH.out, by rw [HD.out]; simp, HS.out, (hbe.setCell (Nat.le_refl _) _).drew⟩
      case measure => rw [HM.out, HM2.out]; omega

theorem len_any (b : Nat) (n : Int) (w : World) (h : w.cell? ⟨b, 5, none⟩ = some (.int .i64 n)) :
    Calls Yba.prog 8 #[.pointer (some ⟨b, 0, none⟩)] w fun e w' => e = .returned (.int .i64 n) ∧ w = w' := by
  go_enter Yba.func8, Yba.ntmps8
  go_wp2
  go_ret
  exact ⟨rfl, rfl⟩

end Go.Proofs.Ybulkaqsg
