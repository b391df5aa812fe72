import Derived.Test.YbulkaqsgRows
import Derived.WalkKit
import Derived.ProofKit
import Derived.OpenShut
import Derived.ShutString
import Derived.ChangeOld
import Derived.Below
import Derived.WalkSmall
import Derived.Deep.RegionHeldLaw
import Derived.Deep.RegionLaw
import Derived.Deep.AppendLies
import Derived.Deep.QuietTactic
import Derived.BigQuiet
namespace Go.Proofs.Ybulkaqsg
open Go.ChangeShapes Go.WideShapes Go.ChangeAt Go.RowKit
set_option linter.unusedVariables false

/-- The eight cells of a chain: its order, its prior, the signature that it adds (signer, no bytes), no deferred one, its length, what it joins, not verified. -/
def chCells (O : ByteArray) (prior : Option Addr) (s : Int) (n : Int) : Array Value := #[.string O, .pointer prior, .int .i64 s, .slice none 0 0, .pointer none, .int .i64 n, .slice none 0 0, .pointer none]

/-- A plain chain at block b: its signers, the last first. -/
def ChainAt (w : World) (O : ByteArray) : Nat → List Int → Prop
  | b, [] => w.heap[b]? = some (.cells (chCells O none 0 0) 41 (0, 0))
  | b, s :: r => ∃ b', w.heap[b]? = some (.cells (chCells O (some ⟨b', 0, none⟩) s ((r.length : Int) + 1)) 41 (0, 0)) ∧ ChainAt w O b' r

theorem ChainAt.head {w : World} {O : ByteArray} {b : Nat} {l : List Int} (h : ChainAt w O b l) : ∃ prior s, w.heap[b]? = some (.cells (chCells O prior s (l.length : Int)) 41 (0, 0)) := by
  cases l with
  | nil => exact ⟨none, 0, h⟩
  | cons s r =>
    obtain ⟨b', h1, _⟩ := h
    exact ⟨some ⟨b', 0, none⟩, s, by rw [h1]; simp⟩

theorem ChainAt.lt {w : World} {O : ByteArray} {b : Nat} {l : List Int} (h : ChainAt w O b l) : b < w.heap.size := by
  obtain ⟨_, _, h1⟩ := h.head
  exact (Array.getElem?_eq_some_iff.1 h1).1

theorem ChainAt.move {w w' : World} {O : ByteArray} (hm : ∀ (b : Nat) (c : Array Value), w.heap[b]? = some (Obj.cells c 41 (0, 0)) → w'.heap[b]? = some (Obj.cells c 41 (0, 0))) : ∀ {l : List Int} {b : Nat}, ChainAt w O b l → ChainAt w' O b l
  | [], b, h => hm b _ h
  | s :: r, b, h => by
    obtain ⟨b', h1, h2⟩ := h
    exact ⟨b', hm b _ h1, ChainAt.move hm h2⟩

theorem ChainAt.later {w w' : World} {O : ByteArray} {b : Nat} {l : List Int} (h : ChainAt w O b l) (hb : Below w.heap.size w w') : ChainAt w' O b l :=
  h.move fun b c hc => (hb.block b (Array.getElem?_eq_some_iff.1 hc).1).trans hc

theorem ChainAt.store {w : World} {O : ByteArray} {b : Nat} {l : List Int} (h : ChainAt w O b l) {g j : Nat} {e : TypeId} {cur : Array Value} {u : Value} (hg : w.heap[g]? = some (.cells cur e (0, 0))) (he : e ≠ 41) : ChainAt (w.setCell ⟨g, j, none⟩ u) O b l :=
  h.move fun b c hc => by
    have hne : b ≠ g := fun hbg => by
      rw [hbg, hg] at hc
      simp at hc
      exact he hc.2
    rw [Below.heap_setCell _ _ _ _ hne]; exact hc

/-- The cells of a chain's block, one by one. -/
theorem ch_cell {w : World} {b : Nat} {O : ByteArray} {prior : Option Addr} {s n : Int} (h : w.heap[b]? = some (.cells (chCells O prior s n) 41 (0, 0))) (j : Nat) : w.cell? ⟨b, j, none⟩ = (chCells O prior s n)[j]? :=
  cell_of_row w b j _ _ _ h

theorem old_cell {w w' : World} {a : Addr} {v : Value} (hb : Below w.heap.size w w') (h : w.cell? a = some v) : w'.cell? a = some v :=
  (hb.cell (World.block_lt_of_cell? w _ h)).trans h

theorem new_at (w : World) (o p : Obj) : (((w.alloc o).alloc p).drew).heap[w.heap.size + 1]? = some p := by
  have h := heap_alloc_new (w.alloc o) p
  have e : (w.alloc o).heap.size = w.heap.size + 1 := by simp
  rw [e] at h
  exact h

set_option maxHeartbeats 1000000 in
theorem with_any (b : Nat) (O : ByteArray) (l : List Int) (s : Int) (w : World) (h : ChainAt w O b l) (hl : l.length ≤ 1000) :
    Calls Yba.prog 11 #[.pointer (some ⟨b, 0, none⟩), .agg #[.int .i64 s, .slice none 0 0]] w fun e w' => ∃ b', e = .returned (.pointer (some ⟨b', 0, none⟩)) ∧ ChainAt w' O b' (s :: l) ∧ w.heap.size ≤ b' ∧ Below w.heap.size w w' := by
  obtain ⟨pr, s0, hh⟩ := h.head
  have c0 : w.cell? ⟨b, 0, none⟩ = some (.string O) := ch_cell hh 0
  have c5 : w.cell? ⟨b, 5, none⟩ = some (.int .i64 (l.length : Int)) := ch_cell hh 5
  have hlt := h.lt
  have hne : ¬ b = w.heap.size := by omega
  have hl2 : (l.length : Int) ≤ 1000 := by omega
  go_enter Yba.func11, Yba.ntmps11
  go_wp2
  go_region
  go_wp2
  go_ret
  have hb1 : Below w.heap.size w ((w.alloc (.cells #[.int .i64 s, .slice none 0 0] 31)).alloc (.cells (chCells O (some ⟨b, 0, none⟩) s ((l.length : Int) + 1)) 41)).drew := (((Below.refl _ _).alloc (Nat.le_refl _) _).alloc (by simp) _).drew
  exact ⟨_, rfl, ⟨b, new_at w _ _ , h.later hb1⟩, by omega, hb1⟩

end Go.Proofs.Ybulkaqsg
