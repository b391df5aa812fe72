import Derived.Test.YbulkarnuBuild
namespace Go.Proofs.Ybulkarnu
open Go.ChangeShapes Go.WideShapes Go.ChangeAt Go.RowKit
set_option linter.unusedVariables false

/-- The parser's seventeen cells as the law lays them. -/
def pcells (G n : Nat) (s : Int) : Array Value := #[.slice (some ⟨G, 0, none⟩) n n, .int .i64 s, .slice none 0 0, .int .i64 0, .int .i64 0, .map none, .slice none 0 0, .slice none 0 0, .slice none 0 0, .slice none 0 0, .slice none 0 0, .slice none 0 0, .slice none 0 0, .slice none 0 0, .slice none 0 0, .slice none 0 0, .slice none 0 0]

theorem par_new (w : World) (G n s : Nat) : ParAt (w.alloc (.cells (pcells G n (s : Int)) 35)) w.heap.size (pcells G n (s : Int)) s := heap_alloc_new w _

set_option maxRecDepth 100000 in
set_option maxHeartbeats 4000000 in
theorem stops_core (a : Option Addr) (cap : Nat) (zs : List Int) (st : Nat) (w : World) (h : RawAt w a zs) (hn : zs.length ≤ 1024) (hst : st ≤ 65535) :
    Calls Yba.prog 3 #[.slice a zs.length cap, .int .u16 (st : Int)] w fun e w' => e = .returned (.bool true) ∧ Below w.heap.size w w' := by
  have hlen : ¬ (1024 : Int) < (zs.length : Int) := by omega
  have HX : Hid (RawAt w a zs) := h
  clear h
  obtain ⟨n, hln⟩ : ∃ n, n = zs.length := ⟨_, rfl⟩
  have HLN : Hid (zs.length = n) := hln.symm
  obtain ⟨s, hs⟩ : ∃ s, s = st % (n + 1) := ⟨_, rfl⟩
  have hq : ((st : Int) % ((zs.length : Int) + 1)) = (s : Int) := by rw [hs, hln]; simp
  have hsn : s ≤ zs.length := by rw [hs, hln]; have := Nat.mod_lt st (show 0 < zs.length + 1 by omega); omega
  have hst2 : (st : Int) ≤ 65535 := by omega
  have hsn2 : (s : Int) ≤ 1024 := by omega
  clear hs hln
  go_enter Yba.func3, Yba.ntmps3
  go_wp2_with fail
  refine (build_any a cap zs _ HX.out hn).mono ?_
  rintro e w1 ⟨rfl, hrow, hb1⟩
  obtain ⟨cs, hcs⟩ := hrow.list
  have hGlt : w.heap.size < w1.heap.size := by
    obtain ⟨cur, h1, _⟩ := hrow
    exact (Array.getElem?_eq_some_iff.1 h1).1
  have HCS : Hid (∀ i, i < zs.length → w1.cell? ⟨w.heap.size, i, none⟩ = some (.int .u8 (cs.getD i 0))) := hcs
  clear HX hrow hcs
  go_wp2_with fail
  simp only [hq]
  change Calls Yba.prog 6 #[.pointer (some ⟨w1.heap.size, 0, none⟩)] (w1.alloc (.cells (pcells w.heap.size zs.length (s : Int)) 35)) _
  have hbA : Below w1.heap.size w1 (w1.alloc (.cells (pcells w.heap.size zs.length (s : Int)) 35)) := (Below.refl _ _).alloc (Nat.le_refl _) _
  have hpA := par_new w1 w.heap.size zs.length s
  generalize w1.alloc (.cells (pcells w.heap.size zs.length (s : Int)) 35) = wA at hbA hpA ⊢
  have hcA : ∀ i, i < zs.length → wA.cell? ⟨w.heap.size, i, none⟩ = some (.int .u8 (cs.getD i 0)) := fun i hi => old_cell hbA (HCS.out i hi)
  refine (skip_any w1.heap.size w.heap.size zs.length s cs (pcells w.heap.size zs.length (s : Int)) wA hpA (by simp [pcells]) rfl hGlt hsn hn hcA).mono ?_
  rintro e w3 ⟨rfl, q, hsq, hqn, hp3, hall, hstop, hb3⟩
  have hb13 : Below w1.heap.size w1 w3 := hbA.trans hb3
  have HB : Hid (Below w.heap.size w w3) := hb1.trans (hb13.mono hb1.size)
  have HC3 : Hid (∀ i, i < zs.length → w3.cell? ⟨w.heap.size, i, none⟩ = some (.int .u8 (cs.getD i 0))) := fun i hi => old_cell hb13 (HCS.out i hi)
  have p0 : w3.cell? ⟨w1.heap.size, 0, none⟩ = some (.slice (some ⟨w.heap.size, 0, none⟩) zs.length zs.length) := hp3.cell 0 (by omega)
  have p1 : w3.cell? ⟨w1.heap.size, 1, none⟩ = some (.int .i64 (q : Int)) := hp3.pos (by simp [pcells])
  have p2 : w3.cell? ⟨w1.heap.size, 2, none⟩ = some (.slice none 0 0) := hp3.cell 2 (by omega)
  have p3 : w3.cell? ⟨w1.heap.size, 3, none⟩ = some (.int .i64 0) := hp3.cell 3 (by omega)
  have HALL : Hid (∀ i, s ≤ i → i < q → spB (cs.getD i 0) = true) := hall
  have HSTOP : Hid (q < zs.length → spB (cs.getD q 0) = false) := hstop
  have i1 : (s : Int) ≤ (q : Int) := by omega
  have i2 : (q : Int) ≤ (zs.length : Int) := by omega
  have d1 : decide (q < s) = false := decide_eq_false (by omega)
  have d2 : decide (zs.length < q) = false := decide_eq_false (by omega)
  clear hcA hbA hpA hb3 hb13 hb1 HCS hp3 hall hstop
  go_wp2
  go_loopw [8] (fun i wr => ∃ k : Nat, s ≤ k ∧ k ≤ q ∧ i = .int .i64 k ∧ Below w3.heap.size w3 wr) (fun i _ => q - (intOf i).toNat)
  case atStart => exact ⟨s, Nat.le_refl _, hsq, rfl, Below.refl _ _⟩
  case round =>
    obtain ⟨k, hsk, hkq, rfl, hbe⟩ := hrel
    have q0 := old_cell hbe p0
    have q1 := old_cell hbe p1
    have q2 := old_cell hbe p2
    have q3 := old_cell hbe p3
    have HBE : Hid (Below w.heap.size w wr) := HB.out.trans (hbe.mono HB.out.size)
    have HBR : Hid (Below w3.heap.size w3 wr) := hbe
    have HCR : Hid (∀ i, i < zs.length → wr.cell? ⟨w.heap.size, i, none⟩ = some (.int .u8 (cs.getD i 0))) := fun i hi => old_cell hbe (HC3.out i hi)
    clear p0 p1 p2 p3 HB HC3 hbe
    by_cases hlt : k < q
    · have x0 := HCR.out k (by omega)
      have hsp := HALL.out k hsk hlt
      have j1 : (k : Int) < (q : Int) := by omega
      clear HCR HALL HSTOP
      generalize cs.getD k 0 = c at *
      go_wp2_with (go_at_call 7; refine (space_any _ _).mono ?_; rintro e w' ⟨rfl, rfl⟩)
      go_roundw
      case rel => exact ⟨k + 1, by omega, by omega, by go_num, HBR.out⟩
      case measure => simp [intOf]; omega
    · have hkq2 : k = q := by omega
      subst hkq2
      by_cases hqn2 : k < zs.length
      · have x0 := HCR.out k hqn2
        have hsp := HSTOP.out hqn2
        have j1 : (k : Int) < (zs.length : Int) := by omega
        clear HCR HALL HSTOP
        generalize cs.getD k 0 = c at *
        go_wp2_with (go_at_call 7; refine (space_any _ _).mono ?_; rintro e w' ⟨rfl, rfl⟩)
        go_ret
        exact ⟨rfl, HBE.out⟩
      · have j1 : ¬ (k : Int) < (zs.length : Int) := by omega
        clear HCR HALL HSTOP
        go_wp2
        go_ret
        exact ⟨rfl, HBE.out⟩

theorem stops_big (a : Option Addr) (n cap : Nat) (st : Int) (w : World) (h : (1024 : Int) < (n : Int)) :
    Calls Yba.prog 3 #[.slice a n cap, .int .u16 st] w fun e w' => e = .returned (.bool true) ∧ Below w.heap.size w w' := by
  go_enter Yba.func3, Yba.ntmps3
  go_wp2
  go_ret
  exact ⟨rfl, Below.refl _ _⟩

end Go.Proofs.Ybulkarnu
