import Derived.Test.YbulkaqsgJoin
import Derived.Lib.AppendZeros
namespace Go.Proofs.Ybulkaqsg
open Go.ChangeShapes Go.WideShapes Go.ChangeAt Go.RowKit
set_option linter.unusedVariables false

theorem grow_zero (w : World) :
    Calls Yba.prog 14 #[.slice none 0 0, .int .i64 0] w fun e w' => e = .returned (.slice none 0 0) ∧ w = w' := by
  go_enter Yba.func14, Yba.ntmps14
  go_wp2
  go_ret
  exact ⟨rfl, rfl⟩

theorem zeroCells_size (z : Array Value) (n : Nat) : (Builtin.zeroCells z n).size = n * z.size := by simp [Builtin.zeroCells]

set_option maxHeartbeats 1000000 in
theorem grow_some (n : Nat) (w : World) (h0 : 0 < n) (hn : n ≤ 300) :
    Calls Yba.prog 14 #[.slice none 0 0, .int .i64 (n : Int)] w fun e w' => ∃ cp cur, e = .returned (.slice (some ⟨w.heap.size, 0, none⟩) 0 cp) ∧ n ≤ cp ∧ cp ≤ maxLen ∧ w'.heap[w.heap.size]? = some (Obj.cells cur 31 (0, 0)) ∧ cur.size = cp * 2 ∧ Below w.heap.size w w' := by
  obtain ⟨i0, hi, hz0, hz1, hz2⟩ := info_parts sig_info
  have hrun := fun ty => Lib.run_append_nil_zeros (P := Yba.prog) w 25 3 ty 31 i0 (.agg #[.int .i64 0, .slice none 0 0]) .i64 .i64 Yba.underlying25 Yba.underlying3 hi hz0 n h0 (by omega) (by omega) (by rw [hz2]; omega)
  have hge := grownCap_ge w n 0 31
  have hle := grownCap_le_maxLen w n 0 31 (by unfold maxLen; omega)
  generalize hcp : grownCap w n 0 31 = cp at *
  have hsz : (Builtin.zeroCells (Value.agg #[.int .i64 0, .slice none 0 0]).cells n ++ Builtin.zeroCells (Value.agg #[.int .i64 0, .slice none 0 0]).cells (cp - n)).size = cp * 2 := by
    rw [Array.size_append, zeroCells_size, zeroCells_size]
    show n * 2 + (cp - n) * 2 = cp * 2
    omega
  generalize Builtin.zeroCells (Value.agg #[.int .i64 0, .slice none 0 0]).cells n ++ Builtin.zeroCells (Value.agg #[.int .i64 0, .slice none 0 0]).cells (cp - n) = cur at *
  clear hcp
  have HR : Hid (∀ ty, (Builtin.append_ #[25, 3] ty #[.slice none 0 0, .int .i64 (n : Int)]).run Yba.prog w = .ok (.slice (some ⟨w.heap.size, 0, none⟩) n cp) (w.drew.alloc (.cells cur 31))) := hrun
  have HS : Hid (cur.size = cp * 2) := hsz
  clear hrun hsz
  have h1 : (0 : Int) < (n : Int) := by omega
  have h2 : (n : Int) ≤ 300 := by omega
  unfold maxLen at hle
  go_enter Yba.func14, Yba.ntmps14
  go_wp2_with (at_builtin; refine Lib.wpList_append_run _ rfl (.tmp 20) (.tmp 21) 25 3 rfl _ _ rfl rfl _ _ (HR.out _) ?_)
  go_ret
  exact ⟨cp, cur, rfl, hge, hle, heap_alloc_new w _, HS.out, (((Below.refl _ _).drew).alloc (Nat.le_refl _) _)⟩

end Go.Proofs.Ybulkaqsg
