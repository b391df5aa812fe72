import Derived.Test.YbulkaqpoZeros
namespace Go.Proofs.Ybulkaqpo
open Go.ChangeShapes Go.WideShapes Go.ChangeAt Go.RowKit
set_option linter.unusedVariables false

theorem Yba.info5 : (Yba.prog.info? 5).map (fun i => (i.zero, i.size, i.bytes)) = some (some (.int .u8 0), 1, 1) := by kernel_rfl

theorem Reads.later {w w' : World} {a : Option Addr} {n : Nat} {zs : List Int} (h : Reads w a n zs) (hb : Below w.heap.size w w') : Reads w' a n zs := by
  obtain ⟨h1, h2, h3⟩ := h
  refine ⟨h1, h2, ?_⟩
  rcases h3 with h3 | ⟨b, off, rfl, hc⟩
  · exact .inl h3
  · refine .inr ⟨b, off, rfl, fun i hi => ?_⟩
    have hc1 := hc i hi
    exact (hb.cell (World.block_lt_of_cell? w _ hc1)).trans hc1

theorem reads_own {w : World} {base g n cap : Nat} {zs : List Int} (h : w.ownsRow base 5 1 (.slice (some ⟨g, 0, none⟩) n cap) n (zs.map (Value.int .u8))) (hm : n ≤ maxLen) : Reads w (some ⟨g, 0, none⟩) n zs := by
  have hl : zs.length = n := by simpa using h.1
  refine ⟨hl, hm, .inr ⟨g, 0, rfl, fun i hi => ?_⟩⟩
  rw [Nat.zero_add, h.cellAt i (by omega)]
  simp [show i < zs.length by omega]

/-- What an append asks of its source. -/
theorem Reads.cells {w : World} {a : Option Addr} {n : Nat} {zs : List Int} (h : Reads w a n zs) : ∀ ad, a = some ad → ∀ j u, (zs.map (Value.int .u8))[j]? = some u → w.cell? (ad.add j) = some u := by
  intro ad had j u hu
  obtain ⟨h1, h2, h3⟩ := h
  have hj : j < n := by
    have := (List.getElem?_eq_some_iff.1 hu).1
    simpa [h1] using this
  rcases h3 with h3 | ⟨b, off, ha, hc⟩
  · omega
  · rw [ha] at had
    obtain rfl := Option.some.inj had
    rw [add_plain, hc j hj]
    rw [← hu]
    simp [show j < zs.length by omega]

theorem allZ_rep (n : Nat) : allZ (List.replicate n 0) = true := by
  simp [allZ]

theorem allZ_set (n : Nat) (v : Int) (hv : v ≠ 0) : allZ ((List.replicate (n + 1) 0).set n v) = false := by
  refine allZ_false _ n (by simp) ?_
  simp [hv]

theorem made_rep (n : Nat) : (madeCells (Value.int .u8 0).cells (n * 1)).toList = (List.replicate n (0 : Int)).map (Value.int .u8) := by
  rw [Nat.mul_one]
  show (madeCells #[Value.int .u8 0] n).toList = _
  rw [toList_madeCells_one]
  simp

theorem zeros_at (a : Option Addr) (n cap : Nat) (zs : List Int) (w : World) (h : Reads w a n zs) :
    Calls Yba.prog 9 #[.slice a n cap] w fun e w' => e = .returned (.bool (allZ zs)) ∧ w = w' :=
  (zeros_any a n cap zs w h).mono fun _ _ h => ⟨h.1, h.2.symm⟩

theorem zeros_set {w : World} {base g q : Nat} (h : w.ownsRow base 5 1 (.slice (some ⟨g, 0, none⟩) (q + 1) (q + 1)) (q + 1) ((List.replicate (q + 1) (0 : Int)).map (Value.int .u8))) (hm : q + 1 ≤ maxLen) (v : Int) (hv : v ≠ 0) :
    Calls Yba.prog 9 #[.slice (some ⟨g, 0, none⟩) (q + 1) (q + 1)] (w.setCell ⟨g, q, none⟩ (.int .u8 v)) fun e w' => e = .returned (.bool false) ∧ w.setCell ⟨g, q, none⟩ (.int .u8 v) = w' := by
  have h2 := (h.stored q (.int .u8 v)).1
  rw [← List.map_set] at h2
  refine (zeros_any _ _ _ _ _ (reads_own h2 hm)).mono ?_
  rintro e w' ⟨rfl, rfl⟩
  exact ⟨by rw [allZ_set q v hv], rfl⟩

theorem grown_first {w w1 : World} (h : w.grownBy w1 none) : Below w.heap.size w w1 := (Below.refl _ _).grown h (Nat.le_refl _) (by simp)

set_option maxRecDepth 100000 in
set_option maxHeartbeats 1000000 in
theorem append_core (a0 : Option Addr) (len0 cap0 : Nat) (za : List Int) (a1 : Option Addr) (len1 cap1 : Nat) (zt : List Int) (k : Nat) (w : World)
    (r0 : Reads w a0 len0 za) (n0 : a0 = none → len0 = 0 ∧ cap0 = 0) (r1 : Reads w a1 len1 zt) (n1 : a1 = none → len1 = 0 ∧ cap1 = 0)
    (hk : k ≤ 255) (b0 : (len0 : Int) ≤ 4096) (b1 : (len1 : Int) ≤ 4096) (A T : Bool) (hA : allZ za = A) (hT : allZ zt = T) (hAT : allZ (za ++ zt) = (A && T)) :
    Calls Yba.prog 4 #[.slice a0 len0 cap0, .slice a1 len1 cap1, .int .u8 (k : Int)] w fun e w' => e = .returned (.bool true) ∧ Below w.heap.size w w' := by
  obtain ⟨i0, hi, hz0, hz1, hz2⟩ := info_parts Yba.info5
  have HcA : Hid (∀ w', Below w.heap.size w w' → Reads w' a0 len0 za) := fun w' hb => r0.later hb
  have HcT : Hid (∀ w', Below w.heap.size w w' → Reads w' a1 len1 zt) := fun w' hb => r1.later hb
  have HlA : Hid (za.length = len0) := r0.1
  have HlT : Hid (zt.length = len1) := r1.1
  have HN0 : Hid (a0 = none → len0 = 0 ∧ cap0 = 0) := n0
  have HN1 : Hid (a1 = none → len1 = 0 ∧ cap1 = 0) := n1
  clear r0 r1 n0 n1
  rcases Nat.eq_zero_or_pos k with hk0 | hk0
  · subst hk0
    cases A <;> cases T
    all_goals
      simp only [Bool.and_self, Bool.and_true, Bool.and_false] at hAT
      go_enter Yba.func4, Yba.ntmps4
      go_wp2_with (first
        | (at_make; refine wpList_make_own _ rfl (.const (.int .i64 0)) (.tmp 21) 22 rfl w.heap.size 5 i0 (.int .u8 0) 1 Yba.underlying22 hi hz0 hz1 .i64 .i64 _ (len0 + len1) rfl rfl (by omega) (by rw [hz2]; omega) (by unfold maxLen; omega) (Nat.le_refl _) ?_; intro w1 hown1 hg1; have hbe1 := grown_first hg1)
        | (at_builtin; refine wpList_append_fits_any _ rfl (.tmp 23) (.tmp 24) 22 rfl w.heap.size 5 i0 1 Yba.underlying22 hi hz1 w.heap.size 0 (len0 + len1) [] rfl hown1 a0 len0 cap0 (za.map (Value.int .u8)) rfl (by simp [HlA.out]) HN0.out ((HcA.out w1 hbe1).cells) (ints_oneCell _ _) (by omega) ?_; intro w2 hown2 hg2; simp only [Nat.zero_add, List.nil_append] at hown2; have hbe2 : Below w.heap.size w w2 := hbe1.grown hg2 (hbe1.size) (by simp))
        | (at_builtin; refine wpList_append_fits_any _ rfl (.tmp 26) (.tmp 27) 22 rfl w.heap.size 5 i0 1 Yba.underlying22 hi hz1 w.heap.size len0 (len0 + len1) (za.map (Value.int .u8)) rfl hown2 a1 len1 cap1 (zt.map (Value.int .u8)) rfl (by simp [HlT.out]) HN1.out ((HcT.out w2 hbe2).cells) (ints_oneCell _ _) (by omega) ?_; intro w3 hown3 hg3; rw [← List.map_append] at hown3; have hbe3 : Below w.heap.size w w3 := hbe2.grown hg3 (hbe2.size) (by simp); have rc := reads_own hown3 (by unfold maxLen; omega); have ra := HcA.out w3 hbe3; have rt := HcT.out w3 hbe3)
        | (at_make; refine wpList_make_full _ rfl (.tmp 39) (.tmp 39) 22 rfl w.heap.size 5 i0 (.int .u8 0) 1 Yba.underlying22 hi hz0 hz1 .i64 .i64 _ _ 0 rfl rfl (by simp) (by simp) (by rw [hz2]; omega) (by unfold maxLen; omega) hbe3.size ?_; intro w4 hown4 hg4; rw [made_rep] at hown4; have hbe4 : Below w.heap.size w w4 := hbe3.grown hg4 (hbe3.size) (by simp); have rz := reads_own hown4 (by unfold maxLen; omega); have hrep := allZ_rep 0)
        | (go_at_call 9; refine (zeros_at _ _ _ _ _ (by assumption)).mono ?_; rintro e w' ⟨rfl, rfl⟩))
      go_ret
      exact ⟨rfl, by assumption⟩
  · obtain ⟨q, rfl⟩ : ∃ q, k = q + 1 := ⟨k - 1, by omega⟩
    cases A <;> cases T
    all_goals
      simp only [Bool.and_self, Bool.and_true, Bool.and_false] at hAT
      go_enter Yba.func4, Yba.ntmps4
      go_wp2_with (first
        | (at_make; refine wpList_make_own _ rfl (.const (.int .i64 0)) (.tmp 21) 22 rfl w.heap.size 5 i0 (.int .u8 0) 1 Yba.underlying22 hi hz0 hz1 .i64 .i64 _ (len0 + len1) rfl rfl (by omega) (by rw [hz2]; omega) (by unfold maxLen; omega) (Nat.le_refl _) ?_; intro w1 hown1 hg1; have hbe1 := grown_first hg1)
        | (at_builtin; refine wpList_append_fits_any _ rfl (.tmp 23) (.tmp 24) 22 rfl w.heap.size 5 i0 1 Yba.underlying22 hi hz1 w.heap.size 0 (len0 + len1) [] rfl hown1 a0 len0 cap0 (za.map (Value.int .u8)) rfl (by simp [HlA.out]) HN0.out ((HcA.out w1 hbe1).cells) (ints_oneCell _ _) (by omega) ?_; intro w2 hown2 hg2; simp only [Nat.zero_add, List.nil_append] at hown2; have hbe2 : Below w.heap.size w w2 := hbe1.grown hg2 (hbe1.size) (by simp))
        | (at_builtin; refine wpList_append_fits_any _ rfl (.tmp 26) (.tmp 27) 22 rfl w.heap.size 5 i0 1 Yba.underlying22 hi hz1 w.heap.size len0 (len0 + len1) (za.map (Value.int .u8)) rfl hown2 a1 len1 cap1 (zt.map (Value.int .u8)) rfl (by simp [HlT.out]) HN1.out ((HcT.out w2 hbe2).cells) (ints_oneCell _ _) (by omega) ?_; intro w3 hown3 hg3; rw [← List.map_append] at hown3; have hbe3 : Below w.heap.size w w3 := hbe2.grown hg3 (hbe2.size) (by simp); have rc := reads_own hown3 (by unfold maxLen; omega); have ra := HcA.out w3 hbe3; have rt := HcT.out w3 hbe3)
        | (at_make; refine wpList_make_full _ rfl (.tmp 39) (.tmp 39) 22 rfl w.heap.size 5 i0 (.int .u8 0) 1 Yba.underlying22 hi hz0 hz1 .i64 .i64 _ _ (q + 1) rfl rfl (by simp) (by simp) (by rw [hz2]; omega) (by unfold maxLen; omega) hbe3.size ?_; intro w4 hown4 hg4; rw [made_rep] at hown4; have hbe4 : Below w.heap.size w w4 := hbe3.grown hg4 (hbe3.size) (by simp); have rz := reads_own hown4 (by unfold maxLen; omega); have hrep := allZ_rep (q + 1); have hfz := hown4.frozenAt q; have hcl : w4.cell? ⟨w3.heap.size, q, none⟩ = some (.int .u8 0) := by (rw [hown4.cellAt q (by omega)]; simp))
        | (go_at_call 9; refine (zeros_at _ _ _ _ _ (by assumption)).mono ?_; rintro e w' ⟨rfl, rfl⟩)
        | (go_at_call 9; refine (zeros_set hown4 (by unfold maxLen; omega) _ (by omega)).mono ?_; rintro e w' ⟨rfl, rfl⟩))
      go_ret
      exact ⟨rfl, hbe4.setCell hbe3.size _⟩

theorem append_big (a0 : Option Addr) (len0 cap0 : Nat) (a1 : Option Addr) (len1 cap1 : Nat) (k : Int) (w : World) (h : ¬ (len0 ≤ 4096 ∧ len1 ≤ 4096)) :
    Calls Yba.prog 4 #[.slice a0 len0 cap0, .slice a1 len1 cap1, .int .u8 k] w fun e w' => e = .returned (.bool true) ∧ Below w.heap.size w w' := by
  by_cases h0 : (4096 : Int) < (len0 : Int)
  · clear h
    go_enter Yba.func4, Yba.ntmps4
    go_wp2
    go_ret
    exact ⟨rfl, Below.refl _ _⟩
  · have h1 : (4096 : Int) < (len1 : Int) := by omega
    clear h
    go_enter Yba.func4, Yba.ntmps4
    go_wp2
    go_ret
    exact ⟨rfl, Below.refl _ _⟩

theorem isRow_none {w : World} {a : Option Addr} {len cap : Nat} {zs : List Int} (h : IsRow .u8 w a len cap zs) : a = none → len = 0 ∧ cap = 0 := by
  rcases h with ⟨rfl, rfl, rfl, rfl⟩ | ⟨x, rfl, _⟩
  · exact fun _ => ⟨rfl, rfl⟩
  · exact fun h => by cases h


end Go.Proofs.Ybulkaqpo
