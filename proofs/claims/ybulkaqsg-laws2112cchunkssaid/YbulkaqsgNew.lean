import Derived.Test.YbulkaqsgChain
namespace Go.Proofs.Ybulkaqsg
open Go.ChangeShapes Go.WideShapes Go.ChangeAt Go.RowKit
set_option linter.unusedVariables false

/-- A slice of signatures without bytes: its signers are ss. -/
def SigsAt (w : World) (a : Option Addr) (ss : List Int) : Prop :=
  ss.length = 0 ∨ ∃ g off, a = some ⟨g, off, none⟩ ∧ ∀ i, i < ss.length → w.cell? ⟨g, off + i * 2, none⟩ = some (.int .i64 (ss.getD i 0)) ∧ w.cell? ⟨g, off + i * 2 + 1, none⟩ = some (.slice none 0 0)

theorem SigsAt.later {w w' : World} {a : Option Addr} {ss : List Int} (h : SigsAt w a ss) (hb : Below w.heap.size w w') : SigsAt w' a ss := by
  rcases h with h | ⟨g, off, rfl, h⟩
  · exact .inl h
  · exact .inr ⟨g, off, rfl, fun i hi => ⟨old_cell hb (h i hi).1, old_cell hb (h i hi).2⟩⟩

theorem rev_snoc (l : List Int) (k : Nat) (h : k < l.length) : (l.take (k + 1)).reverse = l.getD k 0 :: (l.take k).reverse := by
  rw [List.take_succ_eq_append_getElem h]; simp [h]

set_option maxHeartbeats 1000000 in
theorem new_any (O : ByteArray) (a : Option Addr) (cap : Nat) (ss : List Int) (w : World) (h : SigsAt w a ss) (hn : ss.length ≤ 300) :
    Calls Yba.prog 5 #[.string O, .slice a ss.length cap] w fun e w' => ∃ b, e = .returned (.pointer (some ⟨b, 0, none⟩)) ∧ ChainAt w' O b ss.reverse ∧ w.heap.size ≤ b ∧ Below w.heap.size w w' := by
  have hb0 : Below w.heap.size w (w.alloc (.cells (chCells O none 0 0) 41)) := (Below.refl _ _).alloc (Nat.le_refl _) _
  have hc0 : ChainAt (w.alloc (.cells (chCells O none 0 0) 41)) O w.heap.size [] := heap_alloc_new w _
  rcases h with h | ⟨g, off, rfl, h⟩
  · have hs : ss = [] := List.length_eq_zero_iff.1 h
    subst hs
    simp only [List.length_nil]
    have HC : Hid (ChainAt (w.alloc (.cells (chCells O none 0 0) 41)) O w.heap.size []) := hc0
    have HB : Hid (Below w.heap.size w (w.alloc (.cells (chCells O none 0 0) 41))) := hb0
    clear hc0 hb0 h hn
    go_enter Yba.func5, Yba.ntmps5
    go_wp2
    refine wp_loop_rounds 1 ?_
    rw [rounds_succ]
    go_wp2
    go_ret
    exact ⟨_, rfl, HC.out, Nat.le_refl _, HB.out⟩
  · go_enter Yba.func5, Yba.ntmps5
    go_wp2
    go_loopw [5, 13] (fun c i wr => ∃ k b : Nat, k ≤ ss.length ∧ i = .int .i64 k ∧ c = .pointer (some ⟨b, 0, none⟩) ∧ ChainAt wr O b (ss.take k).reverse ∧ w.heap.size ≤ b ∧ Below w.heap.size w wr) (fun _ i _ => ss.length - (intOf i).toNat)
    case atStart => exact ⟨0, w.heap.size, Nat.zero_le _, rfl, rfl, hc0, Nat.le_refl _, hb0⟩
    case round =>
      obtain ⟨k, b, hk, rfl, rfl, hch, hwb, hbe⟩ := hrel
      clear hc0 hb0
      by_cases hlt : k < ss.length
      · obtain ⟨x0, x1⟩ := h k hlt
        have y0 := old_cell hbe x0
        have y1 := old_cell hbe x1
        have HR : Hid ((ss.take (k + 1)).reverse = ss.getD k 0 :: (ss.take k).reverse) := rev_snoc ss k hlt
        have hlk : (ss.take k).reverse.length ≤ 1000 := by simp; omega
        clear h x0 x1
        generalize ss.getD k 0 = s at *
        have hbA : Below wr.heap.size wr (wr.alloc (.cells #[.int .i64 s, .slice none 0 0] 31)) := (Below.refl _ _).alloc (Nat.le_refl _) _
        have hcA := hch.later hbA
        have HA : Hid (Below w.heap.size w (wr.alloc (.cells #[.int .i64 s, .slice none 0 0] 31))) := hbe.trans (hbA.mono hbe.size)
        clear hbA hch
        go_wp2_with fail
        refine (with_any b O _ s _ hcA hlk).mono ?_
        rintro e w2 ⟨b2, rfl, hc2, hw2, hb2⟩
        have hbe2 : Below w.heap.size w w2 := HA.out.trans (hb2.mono HA.out.size)
        have hw3 : w.heap.size ≤ b2 := by have := HA.out.size; omega
        clear HA hb2 hcA hw2
        go_wp2
        go_roundw
        case rel => exact ⟨k + 1, b2, by omega, by go_num, rfl, by rw [HR.out]; exact hc2, hw3, hbe2⟩
        case measure => simp [intOf]; omega
      · have he : ss.take k = ss := List.take_of_length_le (by omega)
        rw [he] at hch
        clear he h
        go_wp2
        go_ret
        exact ⟨_, rfl, hch, hwb, hbe⟩

end Go.Proofs.Ybulkaqsg
