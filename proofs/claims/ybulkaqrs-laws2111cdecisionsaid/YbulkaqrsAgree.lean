import Derived.Test.YbulkaqrsRules
namespace Go.Proofs.Ybulkaqrs
open Go.ChangeShapes Go.WideShapes Go.ChangeAt Go.RowKit
set_option linter.unusedVariables false

theorem Exts.later {w w' : World} {a : Option Addr} {ps : List (Int × Bool)} (h : Exts w a ps) (hb : Below w.heap.size w w') : Exts w' a ps := by
  obtain ⟨h1, h2⟩ := h
  refine ⟨h1, ?_⟩
  rcases h2 with h2 | ⟨b, off, rfl, h3⟩
  · exact .inl h2
  · refine .inr ⟨b, off, rfl, fun i hi => ?_⟩
    obtain ⟨g1, g2⟩ := h3 i hi
    exact ⟨(hb.cell (World.block_lt_of_cell? w _ g1)).trans g1, (hb.cell (World.block_lt_of_cell? w _ g2)).trans g2⟩

theorem old_cell {w w' : World} {a : Addr} {v : Value} (hb : Below w.heap.size w w') (h : w.cell? a = some v) : w'.cell? a = some v :=
  (hb.cell (World.block_lt_of_cell? w _ h)).trans h

/-- 'notCritical(t, broken)', what its caller needs of the world behind it. -/
theorem notCritical_at (T N : ByteArray) (br : Int) (w : World) :
    Calls Yba.prog 7 #[.agg #[.string T, .string N], .int .u8 br] w fun e w' => ∃ p q, e = .returned (.func (.func 9) #[] #[.pointer (some ⟨p, 0, none⟩), .pointer (some ⟨q, 0, none⟩)]) ∧ w'.cell? ⟨p, 0, none⟩ = some (.string T) ∧ w'.cell? ⟨p, 1, none⟩ = some (.string N) ∧ w'.cell? ⟨q, 0, none⟩ = some (.int .u8 br) ∧ Below w.heap.size w w' := by
  refine (notCritical_any T N br w).mono ?_
  rintro e w' ⟨rfl, rfl⟩
  refine ⟨_, _, rfl, ?_, ?_, ?_, ((Below.refl _ _).alloc (Nat.le_refl _) _).alloc (by simp) _⟩
  · rw [World.cell?_alloc_past _ _ _ (by simp)]; simp
  · rw [World.cell?_alloc_past _ _ _ (by simp)]; simp
  · have h := heap_alloc_new (w.alloc (.cells #[.string T, .string N] 25)) (.cells #[.int .u8 br] 30)
    have h2 : ((w.alloc (.cells #[.string T, .string N] 25)).alloc (.cells #[.int .u8 br] 30)).heap[w.heap.size + 1]? = some (.cells #[.int .u8 br] 30 (0, 0)) := by simpa using h
    rw [cell_of_row _ (w.heap.size + 1) 0 _ _ _ h2]; rfl

theorem present_at (T N : ByteArray) (w : World) :
    Calls Yba.prog 8 #[.agg #[.string T, .string N]] w fun e w' => ∃ p, e = .returned (.func (.func 11) #[] #[.pointer (some ⟨p, 0, none⟩)]) ∧ w'.cell? ⟨p, 0, none⟩ = some (.string T) ∧ w'.cell? ⟨p, 1, none⟩ = some (.string N) ∧ Below w.heap.size w w' := by
  refine (present_any T N w).mono ?_
  rintro e w' ⟨rfl, rfl⟩
  refine ⟨_, rfl, ?_, ?_, (Below.refl _ _).alloc (Nat.le_refl _) _⟩ <;> simp

theorem ret_bool {a b : Bool} (h : a = b) : Ending.returned (.bool a) = .returned (.bool b) := by rw [h]

theorem criS_full (N : ByteArray) : (!(criS N).toList.isEmpty) = true := by
  rw [ByteArray.toList_eq]
  have h : 0 < (criS N).data.toList.length := by
    show 0 < ((⟨#[116, 104, 101, 32]⟩ : ByteArray) ++ N ++ _).data.toList.length
    simp [ByteArray.data_append]
  cases hc : (criS N).data.toList with
  | nil => rw [hc] at h; simp at h
  | cons _ _ => rfl

set_option maxRecDepth 100000 in
set_option maxHeartbeats 1000000 in
theorem agree_core (a : Option Addr) (cap : Nat) (ps : List (Int × Bool)) (sel br : Int) (N : ByteArray) (w : World) (h : Exts w a ps) (hn : ps.length ≤ 1024) (hs0 : 0 ≤ sel) (hs1 : sel ≤ 255) (hb0 : 0 ≤ br) (hb1 : br ≤ 255) (hN : N.size ≤ 140737488351232) :
    Calls Yba.prog 4 #[.slice a ps.length cap, .int .u8 sel, .string N, .int .u8 br] w fun e w' => e = .returned (.bool true) ∧ Below w.heap.size w w' := by
  have hlen : ¬ (1024 : Int) < (ps.length : Int) := by omega
  have HX : Hid (∀ w', Below w.heap.size w w' → Exts w' a ps) := fun w' hb => h.later hb
  clear h
  go_enter Yba.func4, Yba.ntmps4
  go_wp2_with (go_at_call 5; refine (coid_any _ hs0 hs1 _).mono ?_; rintro e w' ⟨rfl, rfl⟩)
  have hbA : Below w.heap.size w (w.alloc (.cells #[.string (oidS sel), .string N] 25)) := (Below.refl _ _).alloc (Nat.le_refl _) _
  have hA0 : (w.alloc (.cells #[.string (oidS sel), .string N] 25)).cell? ⟨w.heap.size, 0, none⟩ = some (.string (oidS sel)) := by simp
  have hA1 : (w.alloc (.cells #[.string (oidS sel), .string N] 25)).cell? ⟨w.heap.size, 1, none⟩ = some (.string N) := by simp
  generalize w.alloc (.cells #[.string (oidS sel), .string N] 25) = wA at hbA hA0 hA1 ⊢
  refine (build_any a cap ps _ (HX.out _ hbA) hn).mono ?_
  rintro e wB ⟨b, rfl, hcB, hbB⟩
  have hB0 := old_cell hbB hA0
  have hB1 := old_cell hbB hA1
  have hbW : Below w.heap.size w wB := hbA.trans (hbB.mono hbA.size)
  clear hA0 hA1 hbA hbB HX
  go_wp2_with fail
  refine (notCritical_at (oidS sel) N br _).mono ?_
  rintro e wC ⟨p, q, rfl, p0, p1, q0, hbC⟩
  have hC0 := old_cell hbC hB0
  have hC1 := old_cell hbC hB1
  have hcC := hcB.later hbC
  have hbW2 : Below w.heap.size w wC := hbW.trans (hbC.mono hbW.size)
  clear hB0 hB1 hcB hbC hbW
  go_wp2_with fail
  cases hP : presB (oidS sel) (named ps)
  · refine (crit_absent b p q (oidS sel) N br (named ps) _ hcC p0 p1 q0 hN hP).mono ?_
    rintro e wD ⟨rfl, hbD⟩
    have hD0 := old_cell hbD hC0
    have hD1 := old_cell hbD hC1
    have hcD := hcC.later hbD
    have hbW3 : Below w.heap.size w wD := hbW2.trans (hbD.mono hbW2.size)
    clear hC0 hC1 hcC hbD hbW2 p0 p1 q0
    go_wp2_with fail
    refine (present_at (oidS sel) N _).mono ?_
    rintro e wE ⟨p', rfl, p0, p1, hbE⟩
    have hcE := hcD.later hbE
    have hbW4 : Below w.heap.size w wE := hbW3.trans (hbE.mono hbW3.size)
    clear hD0 hD1 hcD hbE hbW3
    go_wp2_with fail
    refine (pres_absent b p' (oidS sel) N (named ps) _ hcE p0 p1 hN hP).mono ?_
    rintro e wF ⟨rfl, hbF⟩
    have hbW5 : Below w.heap.size w wF := hbW4.trans (hbF.mono hbW4.size)
    clear hcE p0 p1 hbF hbW4
    go_wp2
    go_ret
    exact ⟨rfl, hbW5⟩
  · cases hC : critB (oidS sel) (named ps)
    · refine (crit_pass b p q (oidS sel) N br (named ps) _ hcC p0 p1 q0 hN hP hC).mono ?_
      rintro e wD ⟨rfl, hbD⟩
      have hD0 := old_cell hbD hC0
      have hD1 := old_cell hbD hC1
      have hcD := hcC.later hbD
      have hbW3 : Below w.heap.size w wD := hbW2.trans (hbD.mono hbW2.size)
      clear hC0 hC1 hcC hbD hbW2 p0 p1 q0
      go_wp2_with fail
      refine (present_at (oidS sel) N _).mono ?_
      rintro e wE ⟨p', rfl, p0, p1, hbE⟩
      have hcE := hcD.later hbE
      have hbW4 : Below w.heap.size w wE := hbW3.trans (hbE.mono hbW3.size)
      clear hD0 hD1 hcD hbE hbW3
      go_wp2_with fail
      refine (pres_pass b p' (oidS sel) N (named ps) _ hcE p0 p1 hP).mono ?_
      rintro e wF ⟨rfl, hbF⟩
      have hbW5 : Below w.heap.size w wF := hbW4.trans (hbF.mono hbW4.size)
      clear hcE p0 p1 hbF hbW4
      go_wp2
      go_ret
      exact ⟨rfl, hbW5⟩
    · refine (crit_marked b p q (oidS sel) N br (named ps) _ hcC p0 p1 q0 hN hP hC).mono ?_
      rintro e wD ⟨rfl, hbD⟩
      have hD0 := old_cell hbD hC0
      have hD1 := old_cell hbD hC1
      have hcD := hcC.later hbD
      have hbW3 : Below w.heap.size w wD := hbW2.trans (hbD.mono hbW2.size)
      clear hC0 hC1 hcC hbD hbW2 p0 p1 q0
      go_wp2_with fail
      refine (present_at (oidS sel) N _).mono ?_
      rintro e wE ⟨p', rfl, p0, p1, hbE⟩
      have hcE := hcD.later hbE
      have hbW4 : Below w.heap.size w wE := hbW3.trans (hbE.mono hbW3.size)
      clear hD0 hD1 hcD hbE hbW3
      go_wp2_with fail
      refine (pres_pass b p' (oidS sel) N (named ps) _ hcE p0 p1 hP).mono ?_
      rintro e wF ⟨rfl, hbF⟩
      have hbW5 : Below w.heap.size w wF := hbW4.trans (hbF.mono hbW4.size)
      clear hcE p0 p1 hbF hbW4
      by_cases hB : br = 4
      · subst hB
        go_wp2
        go_ret
        exact ⟨ret_bool (criS_full N), hbW5⟩
      · have hB1 : (br == 4) = false := by simpa using hB
        have hB2 : (br != 4) = true := by simpa using hB
        clear hB
        go_wp2
        go_ret
        exact ⟨rfl, hbW5⟩

theorem agree_big (a : Option Addr) (len cap : Nat) (sel br : Int) (N : ByteArray) (w : World) (h : (1024 : Int) < (len : Int)) :
    Calls Yba.prog 4 #[.slice a len cap, .int .u8 sel, .string N, .int .u8 br] w fun e w' => e = .returned (.bool true) ∧ Below w.heap.size w w' := by
  go_enter Yba.func4, Yba.ntmps4
  go_wp2
  go_ret
  exact ⟨rfl, Below.refl _ _⟩

end Go.Proofs.Ybulkaqrs
