import Derived.Test.YbulkaqrsAgree
namespace Go.Proofs.Ybulkaqrs
open Go.ChangeShapes Go.WideShapes Go.ChangeAt Go.RowKit
set_option linter.unusedVariables false

theorem coid_same (n : Int) (h0 : 0 ≤ n) (h1 : n ≤ 255) (w : World) :
    Calls Yba.prog 5 #[.int .u8 n] w fun e w' => e = .returned (.string (oidS n)) ∧ w' = w :=
  (coid_any n h0 h1 w).mono fun _ _ h => ⟨h.1, h.2.symm⟩

set_option maxRecDepth 100000 in
set_option maxHeartbeats 2000000 in
theorem decide_core (a : Option Addr) (cap : Nat) (ps : List (Int × Bool)) (sel br : Int) (N : ByteArray) (w : World) (h : Exts w a ps) (hn : ps.length ≤ 1024) (hs0 : 0 ≤ sel) (hs1 : sel ≤ 255) (hb0 : 0 ≤ br) (hb1 : br ≤ 255) (hN : N.size ≤ 140737488351232) :
    Calls Yba.prog 3 #[.slice a ps.length cap, .int .u8 sel, .string N, .int .u8 br] w fun e w' => e = .returned (.bool true) ∧ Below w.heap.size w w' := by
  have hlen : ¬ (1024 : Int) < (ps.length : Int) := by omega
  have HX : Hid (∀ w', Below w.heap.size w w' → Exts w' a ps) := fun w' hb => h.later hb
  have HBD : Hid (∀ i, i < ps.length → 0 ≤ (ps.getD i (0, false)).1 ∧ (ps.getD i (0, false)).1 ≤ 255) := h.1
  have HCL : Hid (ps.length = 0 ∨ ∃ b off, a = some ⟨b, off, none⟩ ∧ ∀ i, i < ps.length → w.cell? ⟨b, off + i * 2, none⟩ = some (.int .u8 (ps.getD i (0, false)).1) ∧ w.cell? ⟨b, off + i * 2 + 1, none⟩ = some (.bool (ps.getD i (0, false)).2)) := h.2
  clear h
  go_enter Yba.func3, Yba.ntmps3
  go_wp2_with (go_at_call 5; refine (coid_any _ hs0 hs1 _).mono ?_; rintro e w' ⟨rfl, rfl⟩)
  have hbA : Below w.heap.size w (w.alloc (.cells #[.string (oidS sel), .string N] 25)) := (Below.refl _ _).alloc (Nat.le_refl _) _
  have hA0 : (w.alloc (.cells #[.string (oidS sel), .string N] 25)).cell? ⟨w.heap.size, 0, none⟩ = some (.string (oidS sel)) := by simp
  have hA1 : (w.alloc (.cells #[.string (oidS sel), .string N] 25)).cell? ⟨w.heap.size, 1, none⟩ = some (.string N) := by simp
  generalize w.alloc (.cells #[.string (oidS sel), .string N] 25) = wA at hbA hA0 hA1 ⊢
  generalize oidS sel = T at hA0 ⊢
  have hlt0 : w.heap.size < wA.heap.size := World.block_lt_of_cell? wA _ hA0
  go_loopw [10, 11, 26] (fun p c i wr => ∃ k : Nat, k ≤ ps.length ∧ i = .int .i64 k ∧ p = .bool (presB T (named (ps.take k))) ∧ c = .bool (critB T (named (ps.take k))) ∧ Below wA.heap.size wA wr) (fun _ _ i _ => ps.length - (intOf i).toNat)
  case atStart => exact ⟨0, Nat.zero_le _, rfl, rfl, rfl, Below.refl _ _⟩
  case round =>
    obtain ⟨k, hk, rfl, rfl, rfl, hbe⟩ := hrel
    have hT := old_cell hbe hA0
    have hT1 := old_cell hbe hA1
    have hbw : Below w.heap.size w wr := hbA.trans (hbe.mono hbA.size)
    by_cases hlt : k < ps.length
    · rcases HCL.out with hz | ⟨b, off, rfl, h4⟩
      · omega
      obtain ⟨⟨s, c⟩, he⟩ : ∃ e, ps.getD k (0, false) = e := ⟨_, rfl⟩
      have hx := h4 k hlt
      have hs := HBD.out k hlt
      rw [he] at hx hs
      obtain ⟨hs0', hs1'⟩ := hs
      simp only at hs0' hs1'
      have x0 : wr.cell? ⟨b, off + k * 2, none⟩ = some (.int .u8 s) := old_cell hbw hx.1
      have x1 : wr.cell? ⟨b, off + k * 2 + 1, none⟩ = some (.bool c) := old_cell hbw hx.2
      have hsn := named_snoc ps k s c hlt he
      have HP : Hid (presB T (named (ps.take (k + 1))) = (presB T (named (ps.take k)) || (oidS s).toList == T.toList)) := by rw [hsn]; exact presB_snoc _ _ _ _
      have HC : Hid (critB T (named (ps.take (k + 1))) = (critB T (named (ps.take k)) || ((oidS s).toList == T.toList && c))) := by rw [hsn]; exact critB_snoc _ _ _ _
      have hwr : w.heap.size < wr.heap.size := by have := hbe.size; omega
      clear hx he h4 hsn hA0 hA1 hbA
      generalize presB T (named (ps.take k)) = P0 at HP ⊢
      generalize critB T (named (ps.take k)) = C0 at HC ⊢
      cases hq : ((oidS s).toList == T.toList) <;> cases c
      all_goals
        go_wp2
        go_quiet ((go_at_call 5; exact Calls.quiet_of_same (coid_same _ hs0' hs1' _)))
        go_wp2
        go_roundw
        case rel => exact ⟨k + 1, by omega, by go_num, by rw [HP.out, hq]; simp, by rw [HC.out, hq]; simp, below_drewN (hbe.alloc hbe.size _) _⟩
        case measure => simp [intOf]; omega
    · have he : ps.take k = ps := List.take_of_length_le (by omega)
      rw [he]
      clear he hA0 hA1 hbA
      go_wp2_with fail
      refine (build_any a cap ps _ (HX.out _ hbw) hn).mono ?_
      rintro e wB ⟨b, rfl, hcB, hbB⟩
      have hB0 := old_cell hbB hT
      have hB1 := old_cell hbB hT1
      have hbW : Below w.heap.size w wB := hbw.trans (hbB.mono hbw.size)
      clear hT hT1 hbw hbe hbB HX HBD HCL
      go_wp2_with fail
      refine (notCritical_at T N br _).mono ?_
      rintro e wC ⟨p, q, rfl, p0, p1, q0, hbC⟩
      have hcC := hcB.later hbC
      have hbW2 : Below w.heap.size w wC := hbW.trans (hbC.mono hbW.size)
      clear hB0 hB1 hcB hbC hbW
      go_wp2_with fail
      cases hP : presB T (named ps)
      · refine (crit_absent b p q T N br (named ps) _ hcC p0 p1 q0 hN hP).mono ?_
        rintro e wD ⟨rfl, hbD⟩
        have hbW3 : Below w.heap.size w wD := hbW2.trans (hbD.mono hbW2.size)
        clear hcC hbD hbW2 p0 p1 q0
        go_wp2
        go_ret
        exact ⟨rfl, hbW3⟩
      · cases hC : critB T (named ps)
        · refine (crit_pass b p q T N br (named ps) _ hcC p0 p1 q0 hN hP hC).mono ?_
          rintro e wD ⟨rfl, hbD⟩
          have hbW3 : Below w.heap.size w wD := hbW2.trans (hbD.mono hbW2.size)
          clear hcC hbD hbW2 p0 p1 q0
          go_wp2
          go_ret
          exact ⟨rfl, hbW3⟩
        · refine (crit_marked b p q T N br (named ps) _ hcC p0 p1 q0 hN hP hC).mono ?_
          rintro e wD ⟨rfl, hbD⟩
          have hbW3 : Below w.heap.size w wD := hbW2.trans (hbD.mono hbW2.size)
          clear hcC hbD hbW2 p0 p1 q0
          go_wp2
          go_ret
          exact ⟨rfl, hbW3⟩

theorem decide_big (a : Option Addr) (len cap : Nat) (sel br : Int) (N : ByteArray) (w : World) (h : (1024 : Int) < (len : Int)) :
    Calls Yba.prog 3 #[.slice a len cap, .int .u8 sel, .string N, .int .u8 br] w fun e w' => e = .returned (.bool true) ∧ Below w.heap.size w w' := by
  go_enter Yba.func3, Yba.ntmps3
  go_wp2
  go_ret
  exact ⟨rfl, Below.refl _ _⟩

end Go.Proofs.Ybulkaqrs
