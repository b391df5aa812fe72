import Derived.Test.YbulkaqsgSigs
import Derived.WalkLawsBesides
import Derived.Lib.Builder
namespace Go.Proofs.Ybulkaqsg
open Go.ChangeShapes Go.WideShapes Go.ChangeAt Go.RowKit
set_option linter.unusedVariables false

theorem chain_info : ∃ j, Yba.prog.info? 41 = some j := by
  have h : (Yba.prog.info? 41).isSome = true := by kernel_rfl
  exact Option.isSome_iff_exists.1 h

theorem neq_same (a : Addr) (w : World) : (binOp .neq 23 (.pointer (some a)) (.pointer (some a))).run Yba.prog w = .ok (.bool false) w := by
  obtain ⟨j, hj⟩ := chain_info
  exact Lib.run_neq_ptr_same w a Yba.underlying23 hj
theorem eql_same (a : Addr) (w : World) : (binOp .eql 23 (.pointer (some a)) (.pointer (some a))).run Yba.prog w = .ok (.bool true) w := by
  obtain ⟨j, hj⟩ := chain_info
  exact run_eql_ptr_same w a Yba.underlying23 hj

theorem join_one (gA b cap : Nat) (w : World) (h : w.cell? ⟨gA, 0, none⟩ = some (.pointer (some ⟨b, 0, none⟩))) :
    Calls Yba.prog 10 #[.slice (some ⟨gA, 0, none⟩) 1 cap] w fun e w' => e = .returned (.pointer (some ⟨b, 0, none⟩)) ∧ w = w' := by
  go_enter Yba.func10, Yba.ntmps10
  go_wp2
  go_ret
  exact ⟨rfl, rfl⟩

/-- The cells of a chain that joins others. -/
def joCells (O : ByteArray) (n : Int) (v : Value) : Array Value := #[.string O, .pointer none, .int .i64 0, .slice none 0 0, .pointer none, .int .i64 n, v, .pointer none]

theorem join_more (gA b k cap : Nat) (O : ByteArray) (w : World) (hk : 2 ≤ k) (hk2 : k ≤ 100) (h : w.cell? ⟨gA, 0, none⟩ = some (.pointer (some ⟨b, 0, none⟩))) (hb : w.cell? ⟨b, 0, none⟩ = some (.string O)) :
    Calls Yba.prog 10 #[.slice (some ⟨gA, 0, none⟩) k cap] w fun e w' => e = .returned (.pointer (some ⟨w.heap.size, 0, none⟩)) ∧ w.alloc (.cells (joCells O (3 * (k : Int)) (.slice (some ⟨gA, 0, none⟩) k cap)) 41) = w' := by
  have h1 : ((k : Int) == 1) = false := beq_eq_false_iff_ne.2 (by omega)
  have h0 : (0 : Int) < (k : Int) := by omega
  have h2 : (k : Int) ≤ 100 := by omega
  go_enter Yba.func10, Yba.ntmps10
  go_wp2
  go_ret
  exact ⟨rfl, rfl⟩

theorem acks_joined (b gA k cap : Nat) (w : World) (h : w.cell? ⟨b, 6, none⟩ = some (.slice (some ⟨gA, 0, none⟩) k cap)) :
    Calls Yba.prog 7 #[.pointer (some ⟨b, 0, none⟩)] w fun e w' => e = .returned (.slice (some ⟨gA, 0, none⟩) k cap) ∧ w = w' := by
  go_enter Yba.func7, Yba.ntmps7
  go_wp2
  go_ret
  exact ⟨rfl, rfl⟩

theorem acks_three (b : Nat) (w : World) (h : w.cell? ⟨b, 6, none⟩ = some (.slice none 0 0)) (h5 : w.cell? ⟨b, 5, none⟩ = some (.int .i64 3)) :
    Calls Yba.prog 7 #[.pointer (some ⟨b, 0, none⟩)] w fun e w' => e = .returned (.slice (some ⟨w.heap.size, 0, none⟩) 1 1) ∧ w.alloc (.cells #[.pointer (some ⟨b, 0, none⟩)] 23) = w' := by
  go_enter Yba.func7, Yba.ntmps7
  go_wp2
  go_ret
  exact ⟨rfl, rfl⟩

end Go.Proofs.Ybulkaqsg
