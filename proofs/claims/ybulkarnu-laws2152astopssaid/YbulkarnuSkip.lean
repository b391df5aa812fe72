import Derived.Test.YbulkarnuRows
import Derived.WalkKit
import Derived.ProofKit
import Derived.OpenShut
import Derived.ShutString
import Derived.ChangeOld
import Derived.Below
import Derived.WalkSmall
import Derived.WalkLawsBesides
import Derived.Deep.QuietTactic
import Derived.BigQuiet
namespace Go.Proofs.Ybulkarnu
open Go.ChangeShapes Go.WideShapes Go.ChangeAt Go.RowKit
set_option linter.unusedVariables false

/-- The four bytes of white space. -/
def spB (c : Int) : Bool := c == 32 || c == 9 || c == 10 || c == 13

theorem ret_bool {a b : Bool} (h : a = b) : Ending.returned (.bool a) = .returned (.bool b) := by rw [h]

theorem spB_no {c : Int} (h1 : (c == 32) = false) (h2 : (c == 9) = false) (h3 : (c == 10) = false) (h4 : (c == 13) = false) : spB c = false := by
  simp only [spB, h1, h2, h3, h4, Bool.or_self]

theorem space_any (c : Int) (w : World) :
    Calls Yba.prog 7 #[.int .u8 c] w fun e w' => e = .returned (.bool (spB c)) ∧ w = w' := by
  cases h1 : (c == 32)
  · cases h2 : (c == 9)
    · cases h3 : (c == 10)
      · cases h4 : (c == 13)
        · have H : Hid (spB c = false) := spB_no h1 h2 h3 h4
          go_enter Yba.func7, Yba.ntmps7
          go_wp2
          go_ret
          exact ⟨ret_bool H.out.symm, rfl⟩
        · have H : Hid (spB c = true) := by show _ = _; simp [spB, h4]
          go_enter Yba.func7, Yba.ntmps7
          go_wp2
          go_ret
          exact ⟨ret_bool H.out.symm, rfl⟩
      · have H : Hid (spB c = true) := by show _ = _; simp [spB, h3]
        go_enter Yba.func7, Yba.ntmps7
        go_wp2
        go_ret
        exact ⟨ret_bool H.out.symm, rfl⟩
    · have H : Hid (spB c = true) := by show _ = _; simp [spB, h2]
      go_enter Yba.func7, Yba.ntmps7
      go_wp2
      go_ret
      exact ⟨ret_bool H.out.symm, rfl⟩
  · have H : Hid (spB c = true) := by show _ = _; simp [spB, h1]
    go_enter Yba.func7, Yba.ntmps7
    go_wp2
    go_ret
    exact ⟨ret_bool H.out.symm, rfl⟩

theorem old_cell {w w' : World} {a : Addr} {v : Value} (hb : Below w.heap.size w w') (h : w.cell? a = some v) : w'.cell? a = some v :=
  (hb.cell (World.block_lt_of_cell? w _ h)).trans h

/-- The position that the parser at block P is at. -/
def posOf (w : World) (P : Nat) : Nat := match w.cell? ⟨P, 1, none⟩ with | some v => (intOf v).toNat | none => 0

theorem posOf_of {w : World} {P q : Nat} (h : w.cell? ⟨P, 1, none⟩ = some (.int .i64 (q : Int))) : posOf w P = q := by simp [posOf, h, intOf]

/-- The parser at block P. -/
def ParAt (w : World) (P : Nat) (pc : Array Value) (q : Nat) : Prop := w.heap[P]? = some (Obj.cells (pc.setIfInBounds 1 (.int .i64 (q : Int))) 35 (0, 0))

theorem ParAt.cell {w : World} {P : Nat} {pc : Array Value} {q : Nat} (h : ParAt w P pc q) (j : Nat) (hj : j ≠ 1) : w.cell? ⟨P, j, none⟩ = pc[j]? := by
  rw [cell_of_row w P j _ _ _ h, Array.getElem?_setIfInBounds_ne (by omega)]

theorem ParAt.pos {w : World} {P : Nat} {pc : Array Value} {q : Nat} (h : ParAt w P pc q) (hs : 1 < pc.size) : w.cell? ⟨P, 1, none⟩ = some (.int .i64 (q : Int)) := by
  rw [cell_of_row w P 1 _ _ _ h, Array.getElem?_setIfInBounds_self_of_lt hs]

theorem ParAt.free {w : World} {P : Nat} {pc : Array Value} {q : Nat} (h : ParAt w P pc q) (j : Nat) : w.frozen? ⟨P, j, none⟩ = false := frozen_of_row w P j _ _ h

theorem ParAt.step {w : World} {P : Nat} {pc : Array Value} {q : Nat} (h : ParAt w P pc q) (q' : Nat) : ParAt (w.setCell ⟨P, 1, none⟩ (.int .i64 (q' : Int))) P pc q' := by
  have := heap_setCell_same w P 1 _ 35 (.int .i64 (q' : Int)) h
  unfold ParAt
  rw [this]
  simp

theorem ParAt.step_drew {w : World} {P : Nat} {pc : Array Value} {q : Nat} (h : ParAt w P pc q) (a : Nat) : ParAt ((w.drewN a).setCell ⟨P, 1, none⟩ (.int .i64 ((q : Int) + 1))) P pc (q + 1) := by
  have h2 : ParAt (w.drewN a) P pc q := h
  have := h2.step (q + 1)
  simpa using this

theorem all_snoc {cs : List Int} {s q : Nat} {c : Int} (h : ∀ i, s ≤ i → i < q → spB (cs.getD i 0) = true) (hc : cs.getD q 0 = c) (hs : spB c = true) : ∀ i, s ≤ i → i < q + 1 → spB (cs.getD i 0) = true := by
  intro i h1 h2
  by_cases e : i = q
  · subst e; rw [hc]; exact hs
  · exact h i h1 (by omega)

theorem five (c : Int) : c = 32 ∨ c = 9 ∨ c = 10 ∨ c = 13 ∨ ((c == 32) = false ∧ (c == 9) = false ∧ (c == 10) = false ∧ (c == 13) = false) := by
  by_cases h1 : c = 32
  · exact .inl h1
  by_cases h2 : c = 9
  · exact .inr (.inl h2)
  by_cases h3 : c = 10
  · exact .inr (.inr (.inl h3))
  by_cases h4 : c = 13
  · exact .inr (.inr (.inr (.inl h4)))
  · exact .inr (.inr (.inr (.inr ⟨by simpa using h1, by simpa using h2, by simpa using h3, by simpa using h4⟩)))

set_option maxRecDepth 100000 in
set_option maxHeartbeats 2000000 in
theorem skip_any (P G n s : Nat) (cs : List Int) (pc : Array Value) (w : World) (hp : ParAt w P pc s) (hps : 1 < pc.size) (hp0 : pc[0]? = some (.slice (some ⟨G, 0, none⟩) n n)) (hGP : G < P) (hs : s ≤ n) (hn : n ≤ 1024)
    (hc : ∀ i, i < n → w.cell? ⟨G, i, none⟩ = some (.int .u8 (cs.getD i 0))) :
    Calls Yba.prog 6 #[.pointer (some ⟨P, 0, none⟩)] w fun e w' => e = .returned (.tuple #[]) ∧ ∃ q, s ≤ q ∧ q ≤ n ∧ ParAt w' P pc q ∧ (∀ i, s ≤ i → i < q → spB (cs.getD i 0) = true) ∧ (q < n → spB (cs.getD q 0) = false) ∧ Below P w w' := by
  have HC : Hid (∀ i, i < n → w.cell? ⟨G, i, none⟩ = some (.int .u8 (cs.getD i 0))) := hc
  clear hc
  go_enter Yba.func6, Yba.ntmps6
  go_wp2
  go_loopw [2] (fun u wr => ∃ q, s ≤ q ∧ q ≤ n ∧ ParAt wr P pc q ∧ (∀ i, s ≤ i → i < q → spB (cs.getD i 0) = true) ∧ Below P w wr) (fun _ wr => n - posOf wr P)
  case atStart => exact ⟨s, Nat.le_refl _, hs, hp, fun i h1 h2 => by omega, Below.refl _ _⟩
  case round =>
    obtain ⟨q, hsq, hqn, hpr, hall, hbe⟩ := hrel
    have y0 : wr.cell? ⟨P, 0, none⟩ = some (.slice (some ⟨G, 0, none⟩) n n) := (hpr.cell 0 (by omega)).trans hp0
    have y1 := hpr.pos hps
    have f1 := hpr.free 1
    have HPO : Hid (posOf wr P = q) := posOf_of y1
    have HALL : Hid (∀ i, s ≤ i → i < q → spB (cs.getD i 0) = true) := hall
    have HPR : Hid (ParAt wr P pc q) := hpr
    have i1 : (q : Int) ≤ 1024 := by omega
    clear hall hpr hp hp0
    by_cases hlt : q < n
    · have x0 : wr.cell? ⟨G, q, none⟩ = some (.int .u8 (cs.getD q 0)) := (hbe.cell (p := ⟨G, q, none⟩) hGP).trans (HC.out q hlt)
      have i2 : (q : Int) < (n : Int) := by omega
      clear HC
      obtain ⟨c, hcq⟩ : ∃ c, cs.getD q 0 = c := ⟨_, rfl⟩
      have HCQ : Hid (cs.getD q 0 = c) := hcq
      rw [hcq] at x0
      clear hcq
      rcases five c with h1 | h1 | h1 | h1 | h1
      · subst h1
        have HSP : Hid (spB 32 = true) := rfl
        go_wp2
        go_quiet (fail)
        go_wp2
        go_quiet (fail)
        go_wp2
        go_roundw
        case rel => exact ⟨q + 1, by omega, by omega, HPR.out.step_drew _, all_snoc HALL.out HCQ.out HSP.out, (below_drewN hbe _).setCell (p := ⟨P, 1, none⟩) (Nat.le_refl _) _⟩
        case measure => rw [HPO.out, posOf_of ((HPR.out.step_drew _).pos hps)]; omega
      · subst h1
        have HSP : Hid (spB 9 = true) := rfl
        go_wp2
        go_quiet (fail)
        go_wp2
        go_quiet (fail)
        go_wp2
        go_roundw
        case rel => exact ⟨q + 1, by omega, by omega, HPR.out.step_drew _, all_snoc HALL.out HCQ.out HSP.out, (below_drewN hbe _).setCell (p := ⟨P, 1, none⟩) (Nat.le_refl _) _⟩
        case measure => rw [HPO.out, posOf_of ((HPR.out.step_drew _).pos hps)]; omega
      · subst h1
        have HSP : Hid (spB 10 = true) := rfl
        go_wp2
        go_quiet (fail)
        go_wp2
        go_quiet (fail)
        go_wp2
        go_roundw
        case rel => exact ⟨q + 1, by omega, by omega, HPR.out.step_drew _, all_snoc HALL.out HCQ.out HSP.out, (below_drewN hbe _).setCell (p := ⟨P, 1, none⟩) (Nat.le_refl _) _⟩
        case measure => rw [HPO.out, posOf_of ((HPR.out.step_drew _).pos hps)]; omega
      · subst h1
        have HSP : Hid (spB 13 = true) := rfl
        go_wp2
        go_quiet (fail)
        go_wp2
        go_quiet (fail)
        go_wp2
        go_roundw
        case rel => exact ⟨q + 1, by omega, by omega, HPR.out.step_drew _, all_snoc HALL.out HCQ.out HSP.out, (below_drewN hbe _).setCell (p := ⟨P, 1, none⟩) (Nat.le_refl _) _⟩
        case measure => rw [HPO.out, posOf_of ((HPR.out.step_drew _).pos hps)]; omega
      · obtain ⟨h1, h2, h3, h4⟩ := h1
        have HSP : Hid (spB c = false) := spB_no h1 h2 h3 h4
        go_wp2
        go_quiet (fail)
        go_wp2
        go_quiet (fail)
        go_wp2
        first | go_end0 | refine bodyPost_ret (results_none rfl _ _ _) rfl ?_
        exact ⟨rfl, q, hsq, hqn, HPR.out, HALL.out, fun _ => by rw [HCQ.out]; exact HSP.out, below_drewN hbe _⟩
    · have i2 : ¬ (q : Int) < (n : Int) := by omega
      clear HC
      go_wp2
      go_quiet (fail)
      go_wp2
      go_end0
      exact ⟨rfl, q, hsq, hqn, HPR.out, HALL.out, fun h => absurd h hlt, below_drewN hbe _⟩

end Go.Proofs.Ybulkarnu
