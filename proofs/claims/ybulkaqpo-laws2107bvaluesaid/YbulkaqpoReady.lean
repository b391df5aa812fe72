import Derived.Test.YbulkaqpoRows
import Derived.WalkKit
import Derived.ProofKit
import Derived.OpenShut
import Derived.ShutString
import Derived.Below
namespace Go.Proofs.Ybulkaqpo
open Go.ChangeShapes Go.WideShapes Go.ChangeAt Go.RowKit
set_option linter.unusedVariables false

theorem ld_name : (Yba.f20.name == "runtime.NumGoroutine") = false := by kernel_rfl
theorem ld_body : Yba.f20.body.isNone = true := by kernel_rfl
theorem ld_next : Extern.findNext Yba.f20 = none := by kernel_rfl
theorem ld_find : Extern.find Yba.f20 = some (Extern.Atomic.loadT .ptr) := by kernel_rfl
theorem st_name : (Yba.f19.name == "runtime.NumGoroutine") = false := by kernel_rfl
theorem st_body : Yba.f19.body.isNone = true := by kernel_rfl
theorem st_next : Extern.findNext Yba.f19 = none := by kernel_rfl
theorem st_find : Extern.find Yba.f19 = some Extern.Atomic.storeT := by kernel_rfl

/-- sync/atomic.LoadPointer: what the cell holds. -/
theorem run_ldptr {a : Addr} {p : Option Addr} {w : World} (hc : w.cell? a = some (.pointer p)) :
    (callFunc 20 #[.pointer (some a)]).run Yba.prog w = .ok (.value (.pointer p)) w := by
  rw [run_callFunc_extern Yba.func20 ld_name ld_body ld_next ld_find]
  change (Sem.run Yba.prog (do Extern.Atomic.read .ptr (← asAddr (.pointer (some a)))) w).andThen _ = _
  simp [Extern.Atomic.read, asAddr, hc, Result.andThen]

/-- sync/atomic.StorePointer: the pointer is stored. -/
theorem run_stptr {a : Addr} {p : Option Addr} {u : Value} {w : World} (hc : w.cell? a = some u) (hz : w.frozen? a = false) :
    (callFunc 19 #[.pointer (some a), .pointer p]).run Yba.prog w = .ok (.value (.tuple #[])) (w.setCell a (.pointer p)) := by
  rw [run_callFunc_extern Yba.func19 st_name st_body st_next st_find]
  change (Sem.run Yba.prog (do
    store (← asAddr (.pointer (some a))) (.pointer p) .atomic
    pure Extern.Atomic.none_) w).andThen _ = _
  simp [asAddr, hc, hz, run_store Yba.prog w a (.pointer p) .atomic rfl, Result.andThen, Extern.Atomic.none_]

/-- A run that only looks: past the questions on the program and on blocks' shapes, each answered by 'sh'; the blocks that were asked for are listed. -/
def looks {α : Type} (P : Program) (sh : Option (TypeId × Nat)) : Nat → Sem α → List Nat × Sem α
  | 0, s => ([], s)
  | n + 1, .program k => looks P sh n (k P)
  | n + 1, .shape r k => (r :: (looks P sh n (k sh)).1, (looks P sh n (k sh)).2)
  | _ + 1, s => ([], s)

theorem run_looks {α : Type} (P : Program) (sh : Option (TypeId × Nat)) (w : World) (n : Nat) : ∀ s : Sem α, (∀ r ∈ (looks P sh n s).1, w.shape? r = sh) → s.run P w = (looks P sh n s).2.run P w := by
  induction n with
  | zero => intro s _; rfl
  | succ n ih =>
    intro s h
    cases s with
    | program k => exact ih (k P) h
    | shape r k =>
      have hr : w.shape? r = sh := h r (List.mem_cons_self ..)
      show (k (w.shape? r)).run P w = _
      rw [hr]
      exact ih (k sh) fun q hq => h q (List.mem_cons_of_mem _ hq)
    | _ => rfl

theorem conv_nil (w : World) : (convert 69 66 (.pointer none)).run Yba.prog w = .ok (.pointer none) w := by kernel_rfl

theorem looks_back (g : Nat) : looks Yba.prog (some (76, 1)) 40 (convert 69 66 (.pointer (some ⟨g, 0, none⟩))) = ([g, g], .pure (.pointer (some ⟨g, 0, none⟩))) := by kernel_rfl
theorem looks_to (g : Nat) : looks Yba.prog (some (76, 1)) 40 (convert 66 69 (.pointer (some ⟨g, 0, none⟩))) = ([g, g], .pure (.pointer (some ⟨g, 0, none⟩))) := by kernel_rfl

theorem conv_back {g : Nat} {w : World} (hs : w.shape? g = some (76, 1)) : (convert 69 66 (.pointer (some ⟨g, 0, none⟩))).run Yba.prog w = .ok (.pointer (some ⟨g, 0, none⟩)) w := by
  have h := run_looks Yba.prog (some (76, 1)) w 40 (convert 69 66 (.pointer (some ⟨g, 0, none⟩))) (by rw [looks_back]; intro r hr; simp at hr; rw [hr]; exact hs)
  rw [looks_back] at h
  exact h

theorem conv_to {g : Nat} {w : World} (hs : w.shape? g = some (76, 1)) : (convert 66 69 (.pointer (some ⟨g, 0, none⟩))).run Yba.prog w = .ok (.pointer (some ⟨g, 0, none⟩)) w := by
  have h := run_looks Yba.prog (some (76, 1)) w 40 (convert 66 69 (.pointer (some ⟨g, 0, none⟩))) (by rw [looks_to]; intro r hr; simp at hr; rw [hr]; exact hs)
  rw [looks_to] at h
  exact h

theorem load_nil (b off : Nat) (w : World) (hc : w.cell? ⟨b, off, none⟩ = some (.pointer none)) :
    Calls Yba.prog 14 #[.pointer (some ⟨b, off, none⟩)] w fun e w' => e = .returned (.pointer none) ∧ w = w' := by
  have h1 := run_ldptr hc
  have h2 := conv_nil w
  go_enter Yba.func14, Yba.ntmps14
  go_wp2
  go_ret
  exact ⟨rfl, rfl⟩

theorem load_some (b off g : Nat) (w : World) (hc : w.cell? ⟨b, off, none⟩ = some (.pointer (some ⟨g, 0, none⟩))) (hs : w.shape? g = some (76, 1)) :
    Calls Yba.prog 14 #[.pointer (some ⟨b, off, none⟩)] w fun e w' => e = .returned (.pointer (some ⟨g, 0, none⟩)) ∧ w = w' := by
  have h1 := run_ldptr hc
  have h2 := conv_back hs
  go_enter Yba.func14, Yba.ntmps14
  go_wp2
  go_ret
  exact ⟨rfl, rfl⟩

theorem ready_nil (b : Nat) (w : World) (hc : w.cell? ⟨b, 69, none⟩ = some (.pointer none)) :
    Calls Yba.prog 11 #[.pointer (some ⟨b, 0, none⟩)] w fun e w' => e = .returned .nilIface ∧ w = w' := by
  go_enter Yba.func11, Yba.ntmps11
  go_wp2_with (go_at_call 14; refine (load_nil _ _ _ hc).mono ?_; rintro e w' ⟨rfl, rfl⟩)
  go_ret
  exact ⟨rfl, rfl⟩

theorem ready_some (b g : Nat) (v : Value) (w : World) (hc : w.cell? ⟨b, 69, none⟩ = some (.pointer (some ⟨g, 0, none⟩))) (hs : w.shape? g = some (76, 1)) (hv : w.cell? ⟨g, 0, none⟩ = some v) :
    Calls Yba.prog 11 #[.pointer (some ⟨b, 0, none⟩)] w fun e w' => e = .returned v ∧ w = w' := by
  go_enter Yba.func11, Yba.ntmps11
  go_wp2_with (go_at_call 14; refine (load_some _ _ _ _ hc hs).mono ?_; rintro e w' ⟨rfl, rfl⟩)
  go_ret
  exact ⟨rfl, rfl⟩

theorem store_any (b off g : Nat) (u : Value) (w : World) (hc : w.cell? ⟨b, off, none⟩ = some u) (hz : w.frozen? ⟨b, off, none⟩ = false) (hs : w.shape? g = some (76, 1)) :
    Calls Yba.prog 12 #[.pointer (some ⟨b, off, none⟩), .pointer (some ⟨g, 0, none⟩)] w fun e w' => e = .returned (.tuple #[]) ∧ w.setCell ⟨b, off, none⟩ (.pointer (some ⟨g, 0, none⟩)) = w' := by
  have h1 := run_stptr (p := some ⟨g, 0, none⟩) hc hz
  have h2 := conv_to hs
  go_enter Yba.func12, Yba.ntmps12
  go_wp2
  go_end0
  exact ⟨rfl, rfl⟩

theorem zero69 : Yba.zeroCells74[69]? = some (.pointer none) := by kernel_rfl

theorem fleet_cell (w : World) : (w.alloc (Obj.cells Yba.zeroCells74 74)).cell? ⟨w.heap.size, 69, none⟩ = some (.pointer none) := by
  rw [cell_of_row (w.alloc (Obj.cells Yba.zeroCells74 74)) w.heap.size 69 Yba.zeroCells74 74 (0, 0) (heap_alloc_new w _)]
  exact zero69

theorem value_unset (a0 : Int) (w : World) :
    Calls Yba.prog 6 #[.int .i64 a0, .bool false] w fun e w' => e = .returned (.bool true) ∧ Grown w w' := by
  have hc := fleet_cell w
  go_enter Yba.func6, Yba.ntmps6
  go_wp2_with (go_at_call 11; refine (ready_nil _ _ hc).mono ?_; rintro e w' ⟨rfl, rfl⟩)
  go_ret
  exact ⟨rfl, by repeat (first | exact Grown.refl _ | apply Grown.drew | apply Grown.alloc)⟩

/-- The fleet's block and the block of the variable that holds the error, behind the two allocations. -/
theorem two_blocks (w : World) (v : Value) :
    ((w.alloc (Obj.cells Yba.zeroCells74 74)).alloc (Obj.cells #[v] 76)).heap[w.heap.size]? = some (.cells Yba.zeroCells74 74 (0, 0)) ∧
    ((w.alloc (Obj.cells Yba.zeroCells74 74)).alloc (Obj.cells #[v] 76)).heap[w.heap.size + 1]? = some (.cells #[v] 76 (0, 0)) := by
  constructor
  · rw [Below.heap_alloc _ _ _ (by simp)]
    exact heap_alloc_new w _
  · have := heap_alloc_new (w.alloc (Obj.cells Yba.zeroCells74 74)) (Obj.cells #[v] 76)
    simpa using this

theorem store_here (w : World) (v : Value) :
    Calls Yba.prog 12 #[.pointer (some ⟨w.heap.size, 69, none⟩), .pointer (some ⟨w.heap.size + 1, 0, none⟩)] ((w.alloc (Obj.cells Yba.zeroCells74 74)).alloc (Obj.cells #[v] 76))
      fun e w' => e = .returned (.tuple #[]) ∧ w'.cell? ⟨w.heap.size, 69, none⟩ = some (.pointer (some ⟨w.heap.size + 1, 0, none⟩)) ∧ w'.shape? (w.heap.size + 1) = some (76, 1) ∧ w'.cell? ⟨w.heap.size + 1, 0, none⟩ = some v ∧ Grown w w' := by
  obtain ⟨h0, h1⟩ := two_blocks w v
  have hg : Grown w ((w.alloc (Obj.cells Yba.zeroCells74 74)).alloc (Obj.cells #[v] 76)) := ((Grown.refl w).alloc _ _).alloc _ _
  generalize (w.alloc (Obj.cells Yba.zeroCells74 74)).alloc (Obj.cells #[v] 76) = W at h0 h1 hg ⊢
  have hc : W.cell? ⟨w.heap.size, 69, none⟩ = some (.pointer none) := by
    rw [cell_of_row W w.heap.size 69 Yba.zeroCells74 74 (0, 0) h0]; exact zero69
  have hz : W.frozen? ⟨w.heap.size, 69, none⟩ = false := frozen_of_row W _ _ _ _ h0
  have hs : W.shape? (w.heap.size + 1) = some (76, 1) := by simp [World.shape?, h1]
  refine (store_any _ _ _ _ _ hc hz hs).mono ?_
  rintro e w' ⟨rfl, rfl⟩
  have h1' : (W.setCell ⟨w.heap.size, 69, none⟩ (.pointer (some ⟨w.heap.size + 1, 0, none⟩))).heap[w.heap.size + 1]? = some (.cells #[v] 76 (0, 0)) := by
    rw [Below.heap_setCell _ _ _ _ (by simp)]; exact h1
  refine ⟨rfl, World.cell?_setCell_same _ _ _ hc, ?_, ?_, hg.setCell (Nat.le_refl _) _⟩
  · simp [World.shape?, h1']
  · rw [cell_of_row _ (w.heap.size + 1) 0 #[v] 76 (0, 0) h1']; rfl

theorem assert82 (x : Value) (w : World) : (Instr.typeAssert (.iface 82 x) 76 82 true).run Yba.prog w = .ok (.tuple #[x, .bool true]) w := by kernel_rfl

set_option maxRecDepth 100000 in
theorem value_set (a0 : Int) (w : World) :
    Calls Yba.prog 6 #[.int .i64 a0, .bool true] w fun e w' => e = .returned (.bool true) ∧ Grown w w' := by
  go_enter Yba.func6, Yba.ntmps6
  go_wp2_with fail
  refine (store_here w _).mono ?_
  rintro e w1 ⟨rfl, h1, h2, h3, h4⟩
  have HG : Hid (Grown w w1) := h4
  clear h4
  have hta := assert82
  go_wp2_with (go_at_call 11; refine (ready_some _ _ _ _ h1 h2 h3).mono ?_; rintro e w' ⟨rfl, rfl⟩)
  go_ret
  exact ⟨rfl, HG.out.alloc _ _⟩

end Go.Proofs.Ybulkaqpo
