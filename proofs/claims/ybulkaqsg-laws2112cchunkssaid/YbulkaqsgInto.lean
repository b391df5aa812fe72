import Derived.Test.YbulkaqsgGrow
import Derived.Lib.SliceRun
namespace Go.Proofs.Ybulkaqsg
open Go.ChangeShapes Go.WideShapes Go.ChangeAt Go.RowKit
set_option linter.unusedVariables false

/-- How long the chain is that a pointer leads to. -/
def lenOfP (w : World) (v : Value) : Nat :=
  match v with
  | .pointer (some a) => (match w.cell? ⟨a.block, 5, none⟩ with | some u => (intOf u).toNat | none => 0)
  | _ => 0

theorem lenOfP_chain {w : World} {O : ByteArray} {b : Nat} {l : List Int} (h : ChainAt w O b l) : lenOfP w (.pointer (some ⟨b, 0, none⟩)) = l.length := by
  obtain ⟨pr, s0, hh⟩ := h.head
  have c5 : w.cell? ⟨b, 5, none⟩ = some (.int .i64 (l.length : Int)) := ch_cell hh 5
  simp [lenOfP, c5, intOf]

/-- A block of signatures in which those from place k on hold the signers of l (in signing order). -/
def RowFrom (w : World) (G cp : Nat) (l : List Int) (k : Nat) : Prop :=
  ∃ cur : Array Value, w.heap[G]? = some (Obj.cells cur 31 (0, 0)) ∧ cur.size = cp * 2 ∧ ∀ i, k ≤ i → i < l.length → cur[i * 2]? = some (.int .i64 (l.reverse.getD i 0)) ∧ cur[i * 2 + 1]? = some (.slice none 0 0)

theorem RowFrom.cells {w : World} {G cp k : Nat} {l : List Int} (h : RowFrom w G cp l k) (j : Nat) (hj : j < cp * 2) : (∃ v, w.cell? ⟨G, j, none⟩ = some v) ∧ w.frozen? ⟨G, j, none⟩ = false := by
  obtain ⟨cur, h1, h2, _⟩ := h
  refine ⟨⟨cur[j], ?_⟩, frozen_of_row w G j cur 31 h1⟩
  rw [cell_of_row w G j cur 31 (0, 0) h1]
  simp [h2, hj]

theorem rev_at (d r : List Int) (s : Int) : (d ++ s :: r).reverse.getD r.length 0 = s := by
  have e : (d ++ s :: r).reverse = r.reverse ++ (s :: d.reverse) := by simp
  rw [e]
  simp [List.getD]

theorem RowFrom.store {w : World} {G cp : Nat} {d r : List Int} {s : Int} (h : RowFrom w G cp (d ++ s :: r) (r.length + 1)) (hk : r.length < cp) :
    RowFrom ((w.setCell ⟨G, r.length * 2, none⟩ (.int .i64 s)).setCell ⟨G, r.length * 2 + 1, none⟩ (.slice none 0 0)) G cp (d ++ s :: r) r.length := by
  obtain ⟨cur, h1, h2, h3⟩ := h
  have g1 := heap_setCell_same w G (r.length * 2) cur 31 (.int .i64 s) h1
  have g2 := heap_setCell_same _ G (r.length * 2 + 1) _ 31 (.slice none 0 0) g1
  refine ⟨_, g2, by simp [h2], fun i hi hl => ?_⟩
  by_cases e : i = r.length
  · subst e
    rw [rev_at]
    constructor
    · rw [Array.getElem?_setIfInBounds_ne (by omega), Array.getElem?_setIfInBounds_self_of_lt (by omega)]
    · rw [Array.getElem?_setIfInBounds_self_of_lt (by simp; omega)]
  · obtain ⟨e1, e2⟩ := h3 i (by omega) hl
    constructor
    · rw [Array.getElem?_setIfInBounds_ne (by omega), Array.getElem?_setIfInBounds_ne (by omega)]; exact e1
    · rw [Array.getElem?_setIfInBounds_ne (by omega), Array.getElem?_setIfInBounds_ne (by omega)]; exact e2

theorem RowFrom.store_at {w : World} {G cp n : Nat} {l d r : List Int} {s : Int} (h : RowFrom w G cp l (n + 1)) (hl : l = d ++ s :: r) (hn : r.length = n) (hk : n < cp) :
    RowFrom ((w.setCell ⟨G, n * 2, none⟩ (.int .i64 s)).setCell ⟨G, n * 2 + 1, none⟩ (.slice none 0 0)) G cp l n := by
  subst hl; subst hn
  exact h.store hk

theorem RowFrom.done {w : World} {G cp : Nat} {l : List Int} (h : RowFrom w G cp l 0) : SigsAt w (some ⟨G, 0, none⟩) l.reverse := by
  obtain ⟨cur, h1, h2, h3⟩ := h
  refine .inr ⟨G, 0, rfl, fun i hi => ?_⟩
  rw [cell_of_row w G _ cur 31 (0, 0) h1, cell_of_row w G _ cur 31 (0, 0) h1]
  simpa using h3 i (Nat.zero_le _) (by simpa using hi)

theorem slice_nil_run (w : World) : (binOp .eql 27 (.slice none 0 0) (.slice none 0 0)).run Yba.prog w = .ok (.bool true) w :=
  Lib.run_eql_slice_nil w 27 23 none 0 0 0 0 Yba.underlying27

theorem below_undrew {w w1 : World} (h : Below w.drew.heap.size w.drew w1) : Below w.heap.size w w1 := ⟨h.os, h.tape, h.output, h.size, h.block⟩

theorem grow_drew (n : Nat) (w : World) (h0 : 0 < n) (hn : n ≤ 300) :
    Calls Yba.prog 14 #[.slice none 0 0, .int .i64 (n : Int)] w.drew fun e w' => ∃ cp cur, e = .returned (.slice (some ⟨w.heap.size, 0, none⟩) 0 cp) ∧ n ≤ cp ∧ cp ≤ maxLen ∧ w'.heap[w.heap.size]? = some (Obj.cells cur 31 (0, 0)) ∧ cur.size = cp * 2 ∧ Below w.heap.size w w' := by
  refine (grow_some n w.drew h0 hn).mono ?_
  rintro e w1 ⟨cp, cur, he, h1, h2, h3, h4, h5⟩
  exact ⟨cp, cur, he, h1, h2, h3, h4, below_undrew h5⟩

set_option maxRecDepth 100000 in
set_option maxHeartbeats 2000000 in
theorem into_some (b : Nat) (O : ByteArray) (l : List Int) (w : World) (h : ChainAt w O b l) (h0 : 0 < l.length) (hn : l.length ≤ 300) :
    Calls Yba.prog 13 #[.pointer (some ⟨b, 0, none⟩), .slice none 0 0] w fun e w' => ∃ a' cap', e = .returned (.slice a' l.length cap') ∧ l.length ≤ cap' ∧ cap' ≤ maxLen ∧ SigsAt w' a' l.reverse ∧ Below w.heap.size w w' := by
  obtain ⟨pr, s0, hh⟩ := h.head
  have c5 : w.cell? ⟨b, 5, none⟩ = some (.int .i64 (l.length : Int)) := ch_cell hh 5
  have hnl : (l.length : Int) ≤ 300 := by omega
  go_enter Yba.func13, Yba.ntmps13
  go_wp2_with fail
  go_region_held (fun w' => w'.cell? ⟨b, 5, none⟩ = some (.int .i64 (l.length : Int))) (first | exact c5 | exact h5 | go_keep) ((go_at_call 14; refine (grow_drew l.length _ h0 hn).mono ?_; rintro e w1 ⟨cp, cur, rfl, hcp, hcp2, hG, hsz, hb1⟩; have h5 := old_cell hb1 c5))
  unfold maxLen at hcp2
  have hrow : RowFrom w1 w.heap.size cp l l.length := ⟨cur, hG, hsz, fun i h1 h2 => absurd h1 (by omega)⟩
  clear hG hsz
  go_wp2
  go_loopw [6, 7] (fun f p wr => ∃ (b' : Nat) (l' d : List Int), f = .int .i64 (l.length : Int) ∧ p = .pointer (some ⟨b', 0, none⟩) ∧ ChainAt w O b' l' ∧ l = d ++ l' ∧ RowFrom wr w.heap.size cp l l'.length ∧ Below w.heap.size w wr) (fun _ p _ => lenOfP w p)
  case atStart => exact ⟨b, l, [], rfl, rfl, h, rfl, hrow, hb1⟩
  case round =>
    obtain ⟨b', l', d, rfl, rfl, hch, hld, hr, hbe⟩ := hrel
    clear hrow hb1 h5
    have hlen' : l'.length ≤ l.length := by rw [hld]; simp
    have y5 := old_cell hbe c5
    cases l' with
    | nil =>
      have q5 := old_cell hbe (ch_cell hch 5)
      have q6 := old_cell hbe (ch_cell hch 6)
      simp only [chCells] at q5 q6
      have HL := hr.done
      clear hch hld hr
      go_wp2
      refine wp_loop_rounds 1 ?_
      rw [rounds_succ]
      go_wp2
      go_ret
      exact ⟨_, _, rfl, hcp, hcp2, HL, hbe⟩
    | cons s r =>
      have HM : Hid (lenOfP w (.pointer (some ⟨b', 0, none⟩)) = r.length + 1) := lenOfP_chain hch
      obtain ⟨b2, hh2, hch2⟩ := hch
      have HM2 : Hid (lenOfP w (.pointer (some ⟨b2, 0, none⟩)) = r.length) := lenOfP_chain hch2
      have q1 : wr.cell? ⟨b', 1, none⟩ = some (.pointer (some ⟨b2, 0, none⟩)) := old_cell hbe (ch_cell hh2 1)
      have q2 : wr.cell? ⟨b', 2, none⟩ = some (.int .i64 s) := old_cell hbe (ch_cell hh2 2)
      have q3 : wr.cell? ⟨b', 3, none⟩ = some (.slice none 0 0) := old_cell hbe (ch_cell hh2 3)
      have q4 : wr.cell? ⟨b', 4, none⟩ = some (.pointer none) := old_cell hbe (ch_cell hh2 4)
      have q5 : wr.cell? ⟨b', 5, none⟩ = some (.int .i64 ((r.length : Int) + 1)) := old_cell hbe (ch_cell hh2 5)
      have q6 : wr.cell? ⟨b', 6, none⟩ = some (.slice none 0 0) := old_cell hbe (ch_cell hh2 6)
      have hbl : b' < w.heap.size := (Array.getElem?_eq_some_iff.1 hh2).1
      have HD : Hid (l = d ++ s :: r) := hld
      have HCH : Hid (ChainAt w O b2 r) := hch2
      have HRL : Hid (r.length = r.length) := rfl
      simp only [List.length_cons] at hr hlen'
      obtain ⟨⟨v0, hv0⟩, hf0⟩ := hr.cells (r.length * 2) (by omega)
      obtain ⟨⟨v1, hv1⟩, hf1⟩ := hr.cells (r.length * 2 + 1) (by omega)
      have HS : Hid (RowFrom ((wr.setCell ⟨w.heap.size, r.length * 2, none⟩ (.int .i64 s)).setCell ⟨w.heap.size, r.length * 2 + 1, none⟩ (.slice none 0 0)) w.heap.size cp l r.length) := hr.store_at hld rfl (by omega)
      have i1 : (r.length : Int) + 1 ≤ (l.length : Int) := by omega
      have hsn := slice_nil_run
      clear hh2 hch2 hld hr HRL
      go_wp2
      go_region
      go_wp2
      go_roundw
      case rel => exact ⟨b2, r, d ++ [s], rfl, rfl, HCH.out, by rw [HD.out]; simp, HS.out, ((hbe.setCell (Nat.le_refl _) _).setCell (Nat.le_refl _) _).drew⟩
      case measure => rw [HM.out, HM2.out]; omega

set_option maxRecDepth 100000 in
set_option maxHeartbeats 1000000 in
theorem into_none (b : Nat) (O : ByteArray) (w : World) (h : ChainAt w O b []) :
    Calls Yba.prog 13 #[.pointer (some ⟨b, 0, none⟩), .slice none 0 0] w fun e w' => e = .returned (.slice none 0 0) ∧ Below w.heap.size w w' := by
  have c5 : w.cell? ⟨b, 5, none⟩ = some (.int .i64 0) := ch_cell h 5
  have c6 : w.cell? ⟨b, 6, none⟩ = some (.slice none 0 0) := ch_cell h 6
  go_enter Yba.func13, Yba.ntmps13
  go_wp2_with fail
  go_region_held (fun w' => w'.cell? ⟨b, 5, none⟩ = some (.int .i64 0)) (first | exact c5 | go_keep) ((go_at_call 14; refine (grow_zero _).mono ?_; rintro e w1 ⟨rfl, rfl⟩))
  go_wp2
  refine wp_loop_rounds 1 ?_
  rw [rounds_succ]
  go_wp2
  refine wp_loop_rounds 1 ?_
  rw [rounds_succ]
  go_wp2
  go_ret
  exact ⟨rfl, (Below.refl _ _).drew⟩

theorem sigs_some (b : Nat) (O : ByteArray) (l : List Int) (w : World) (h : ChainAt w O b l) (h0 : 0 < l.length) (hn : l.length ≤ 300) :
    Calls Yba.prog 12 #[.pointer (some ⟨b, 0, none⟩)] w fun e w' => ∃ a' cap', e = .returned (.slice a' l.length cap') ∧ l.length ≤ cap' ∧ cap' ≤ maxLen ∧ SigsAt w' a' l.reverse ∧ Below w.heap.size w w' := by
  go_enter Yba.func12, Yba.ntmps12
  go_wp2_with (go_at_call 13; refine (into_some _ O l _ h h0 hn).mono ?_; rintro e w' ⟨a', cap', rfl, h1, h2, h3, h4⟩)
  go_ret
  exact ⟨a', cap', rfl, h1, h2, h3, h4⟩

theorem sigs_none (b : Nat) (O : ByteArray) (w : World) (h : ChainAt w O b []) :
    Calls Yba.prog 12 #[.pointer (some ⟨b, 0, none⟩)] w fun e w' => e = .returned (.slice none 0 0) ∧ Below w.heap.size w w' := by
  go_enter Yba.func12, Yba.ntmps12
  go_wp2_with (go_at_call 13; refine (into_none _ O _ h).mono ?_; rintro e w' ⟨rfl, hb⟩)
  go_ret
  exact ⟨rfl, hb⟩

end Go.Proofs.Ybulkaqsg
