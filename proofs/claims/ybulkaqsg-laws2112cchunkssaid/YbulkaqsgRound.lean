import Derived.Test.YbulkaqsgJoin
namespace Go.Proofs.Ybulkaqsg
open Go.ChangeShapes Go.WideShapes Go.ChangeAt Go.RowKit
set_option linter.unusedVariables false

theorem csigs_at (a : Option Addr) (n cap : Nat) (ss : List Int) (w : World) (h : IntsAt w a ss) (hl : ss.length = n) (hn : n ≤ 300) :
    Calls Yba.prog 6 #[.slice a n cap] w fun e w' => ∃ a' cap', e = .returned (.slice a' n cap') ∧ SigsAt w' a' ss ∧ Below w.heap.size w w' := by
  subst hl
  exact csigs_any a cap ss w h hn

theorem new_len (O : ByteArray) (a : Option Addr) (n cap : Nat) (ss : List Int) (w : World) (h : SigsAt w a ss) (hl : ss.length = n) (hn : n ≤ 300) :
    Calls Yba.prog 5 #[.string O, .slice a n cap] w fun e w' => ∃ b, e = .returned (.pointer (some ⟨b, 0, none⟩)) ∧ ChainAt w' O b ss.reverse ∧ w.heap.size ≤ b ∧ Below w.heap.size w w' := by
  subst hl
  exact new_any O a cap ss w h hn

/-- A block of k pointers to chains, of which the first have been filled in: each a chain of three. -/
def AckRow (w : World) (g : Nat) (O : ByteArray) (k : Nat) (bs : List Nat) : Prop :=
  (∃ cur : Array Value, w.heap[g]? = some (Obj.cells cur 23 (0, 0)) ∧ cur.size = k ∧ ∀ j, j < bs.length → cur[j]? = some (.pointer (some ⟨bs.getD j 0, 0, none⟩))) ∧ ∀ j, j < bs.length → ∃ l, l.length = 3 ∧ ChainAt w O (bs.getD j 0) l

theorem AckRow.later {w w' : World} {g : Nat} {O : ByteArray} {k : Nat} {bs : List Nat} (h : AckRow w g O k bs) (hb : Below w.heap.size w w') : AckRow w' g O k bs := by
  obtain ⟨⟨cur, h1, h2, h3⟩, h4⟩ := h
  refine ⟨⟨cur, (hb.block g (Array.getElem?_eq_some_iff.1 h1).1).trans h1, h2, h3⟩, fun j hj => ?_⟩
  obtain ⟨l, hl, hc⟩ := h4 j hj
  exact ⟨l, hl, hc.later hb⟩

theorem AckRow.spot {w : World} {g : Nat} {O : ByteArray} {k : Nat} {bs : List Nat} (h : AckRow w g O k bs) (j : Nat) (hj : j < k) : (∃ v, w.cell? ⟨g, j, none⟩ = some v) ∧ w.frozen? ⟨g, j, none⟩ = false := by
  obtain ⟨⟨cur, h1, h2, h3⟩, h4⟩ := h
  refine ⟨⟨cur[j], ?_⟩, frozen_of_row w g j cur 23 h1⟩
  rw [cell_of_row w g j cur 23 (0, 0) h1]
  simp [h2, hj]

theorem AckRow.at {w : World} {g : Nat} {O : ByteArray} {k : Nat} {bs : List Nat} (h : AckRow w g O k bs) (j : Nat) (hj : j < bs.length) : w.cell? ⟨g, j, none⟩ = some (.pointer (some ⟨bs.getD j 0, 0, none⟩)) := by
  obtain ⟨⟨cur, h1, h2, h3⟩, h4⟩ := h
  rw [cell_of_row w g j cur 23 (0, 0) h1]
  exact h3 j hj

theorem AckRow.store {w : World} {g : Nat} {O : ByteArray} {k : Nat} {bs : List Nat} (h : AckRow w g O k bs) {b : Nat} {l : List Int} (hl : l.length = 3) (hc : ChainAt w O b l) (hk : bs.length < k) :
    AckRow (w.setCell ⟨g, bs.length, none⟩ (.pointer (some ⟨b, 0, none⟩))) g O k (bs ++ [b]) := by
  obtain ⟨⟨cur, h1, h2, h3⟩, h4⟩ := h
  refine ⟨⟨_, heap_setCell_same w g bs.length cur 23 _ h1, by simp [h2], fun j hj => ?_⟩, fun j hj => ?_⟩
  · simp only [List.length_append, List.length_cons, List.length_nil] at hj
    by_cases e : j = bs.length
    · subst e
      rw [Array.getElem?_setIfInBounds_self_of_lt (by omega)]
      simp [List.getD]
    · rw [Array.getElem?_setIfInBounds_ne (by omega), h3 j (by omega)]
      simp [List.getD, List.getElem?_append_left (show j < bs.length by omega)]
  · simp only [List.length_append, List.length_cons, List.length_nil] at hj
    by_cases e : j = bs.length
    · subst e
      exact ⟨l, hl, by simpa [List.getD] using hc.store h1 (by decide)⟩
    · obtain ⟨l', hl', hc'⟩ := h4 j (by omega)
      refine ⟨l', hl', ?_⟩
      have e2 : (bs ++ [b]).getD j 0 = bs.getD j 0 := by simp [List.getD, List.getElem?_append_left (show j < bs.length by omega)]
      rw [e2]
      exact hc'.store h1 (by decide)

theorem AckRow.store_at {w : World} {g : Nat} {O : ByteArray} {k n : Nat} {bs : List Nat} (h : AckRow w g O k bs) {b : Nat} {l : List Int} (hl : l.length = 3) (hc : ChainAt w O b l) (hn : bs.length = n) (hk : n < k) :
    AckRow (w.setCell ⟨g, n, none⟩ (.pointer (some ⟨b, 0, none⟩))) g O k (bs ++ [b]) := by
  subst hn
  exact h.store hl hc hk

theorem ptr_info : (Yba.prog.info? 23).map (fun i => (i.zero, i.size, i.bytes)) = some (some (.pointer none), 1, 8) := by kernel_rfl

theorem IntsAt.cut {w : World} {g off : Nat} {ss : List Int} (h : ∀ i, i < ss.length → w.cell? ⟨g, off + i, none⟩ = some (.int .i64 (ss.getD i 0))) (i : Nat) (hi : 3 * i + 3 ≤ ss.length) : IntsAt w (some ⟨g, off + 3 * i, none⟩) ((ss.drop (3 * i)).take 3) := by
  refine .inr ⟨g, off + 3 * i, rfl, fun j hj => ?_⟩
  have hj3 : j < 3 := by simp at hj; omega
  rw [Nat.add_assoc, h (3 * i + j) (by omega)]
  simp [List.getD, hj3]

theorem join_one_at (gA b k cap : Nat) (w : World) (hk : k = 1) (h : w.cell? ⟨gA, 0, none⟩ = some (.pointer (some ⟨b, 0, none⟩))) :
    Calls Yba.prog 10 #[.slice (some ⟨gA, 0, none⟩) k cap] w fun e w' => e = .returned (.pointer (some ⟨b, 0, none⟩)) ∧ w = w' := by
  subst hk
  exact join_one gA b cap w h

theorem acks_three_at (b k : Nat) (w : World) (hk : k = 1) (h : w.cell? ⟨b, 6, none⟩ = some (.slice none 0 0)) (h5 : w.cell? ⟨b, 5, none⟩ = some (.int .i64 3)) :
    Calls Yba.prog 7 #[.pointer (some ⟨b, 0, none⟩)] w fun e w' => ∃ G, e = .returned (.slice (some ⟨G, 0, none⟩) k k) ∧ w'.cell? ⟨G, 0, none⟩ = some (.pointer (some ⟨b, 0, none⟩)) ∧ Below w.heap.size w w' := by
  subst hk
  refine (acks_three b w h h5).mono ?_
  rintro e w' ⟨rfl, rfl⟩
  exact ⟨_, rfl, by simp, (Below.refl _ _).alloc (Nat.le_refl _) _⟩

theorem AckRow.chain {w : World} {g : Nat} {O : ByteArray} {k : Nat} {bs : List Nat} (h : AckRow w g O k bs) (j : Nat) (hj : j < bs.length) :
    w.cell? ⟨bs.getD j 0, 0, none⟩ = some (.string O) ∧ w.cell? ⟨bs.getD j 0, 5, none⟩ = some (.int .i64 3) ∧ w.cell? ⟨bs.getD j 0, 6, none⟩ = some (.slice none 0 0) := by
  obtain ⟨l, hl, hc⟩ := h.2 j hj
  obtain ⟨pr, s0, hh⟩ := hc.head
  rw [hl] at hh
  exact ⟨ch_cell hh 0, ch_cell hh 5, ch_cell hh 6⟩

set_option maxRecDepth 100000 in
set_option maxHeartbeats 2000000 in
theorem join_core (O : ByteArray) (g off cap : Nat) (ss : List Int) (k : Nat) (w : World) (h : ∀ i, i < ss.length → w.cell? ⟨g, off + i, none⟩ = some (.int .i64 (ss.getD i 0))) (hcap : ss.length ≤ cap) (hn : ss.length ≤ 300) (hk : k = ss.length / 3) (hk1 : 1 ≤ k) :
    Calls Yba.prog 4 #[.string O, .slice (some ⟨g, off, none⟩) ss.length cap] w fun e w' => e = .returned (.bool true) ∧ Below w.heap.size w w' := by
  obtain ⟨i0, hi, hz0, hz1, hz2⟩ := info_parts ptr_info
  have hq : ((ss.length : Int) / 3) = (k : Int) := by omega
  have h3k : 3 * k ≤ ss.length := by omega
  have hkz : ((k : Int) == 0) = false := beq_eq_false_iff_ne.2 (by omega)
  have hlen : ¬ (300 : Int) < (ss.length : Int) := by omega
  have hk100 : k ≤ 100 := by omega
  clear hk
  have HX : Hid (∀ i, i < ss.length → w.cell? ⟨g, off + i, none⟩ = some (.int .i64 (ss.getD i 0))) := h
  clear h
  go_enter Yba.func4, Yba.ntmps4
  go_wp2_with (at_make; refine wpList_make_full _ rfl (.tmp 19) (.tmp 19) 27 rfl w.heap.size 23 i0 (.pointer none) 1 Yba.underlying27 hi hz0 hz1 .i64 .i64 _ _ k rfl rfl rfl rfl (by rw [hz2]; omega) (by unfold maxLen; omega) (Nat.le_refl _) ?_; intro w1 hown1 hg1)
  have hbe1 : Below w.heap.size w w1 := (Below.refl _ _).grown hg1 (Nat.le_refl _) (by simp)
  have hrow : AckRow w1 w.heap.size O k [] := by
    rcases hown1.2 with ⟨h5, _⟩ | ⟨g', cap', cur, h5, _, hh, _, _, hsz, _⟩
    · simp at h5
    · simp only [Value.slice.injEq, Option.some.injEq, Addr.mk.injEq, and_true, true_and] at h5
      obtain ⟨rfl, rfl⟩ := h5
      exact ⟨⟨cur, hh, by omega, fun j hj => absurd hj (Nat.not_lt_zero _)⟩, fun j hj => absurd hj (Nat.not_lt_zero _)⟩
  clear hown1 hg1
  go_loopw [7] (fun i wr => ∃ bs : List Nat, bs.length ≤ k ∧ i = .int .i64 (bs.length : Nat) ∧ AckRow wr w.heap.size O k bs ∧ Below w.heap.size w wr) (fun i _ => k - (intOf i).toNat)
  case atStart => exact ⟨[], Nat.zero_le _, rfl, hrow, hbe1⟩
  case round =>
    obtain ⟨bs, hbk, rfl, hr, hbe⟩ := hrel
    clear hrow hbe1
    by_cases hlt : bs.length < k
    · have hcut : IntsAt wr (some ⟨g, off + 3 * bs.length, none⟩) ((ss.drop (3 * bs.length)).take 3) := IntsAt.cut (fun i hi => old_cell hbe (HX.out i hi)) bs.length (by omega)
      have hc3 : ((ss.drop (3 * bs.length)).take 3).length = 3 := by simp; omega
      have HC3 : Hid (((ss.drop (3 * bs.length)).take 3).length = 3) := hc3
      have b1 : (3 : Int) * (bs.length : Int) + 3 ≤ (ss.length : Int) := by omega
      have b2 : (ss.length : Int) ≤ (cap : Int) := by omega
      clear hc3
      generalize ((ss.drop (3 * bs.length)).take 3) = s3 at *
      generalize hnb : bs.length = n at *
      have HNB : Hid (bs.length = n) := hnb
      clear hnb
      go_wp2_with fail
      refine (csigs_at _ 3 _ s3 _ hcut HC3.out (by omega)).mono ?_
      rintro e w2 ⟨a2, cap2, rfl, hsg, hb2⟩
      have hr2 := hr.later hb2
      have hbe2 : Below w.heap.size w w2 := hbe.trans (hb2.mono hbe.size)
      clear hr hb2 hbe hcut
      go_wp2_with fail
      refine (new_len O a2 3 cap2 s3 _ hsg HC3.out (by omega)).mono ?_
      rintro e w3 ⟨b3, rfl, hch, hb3, hb3'⟩
      have hr3 := hr2.later hb3'
      have hbe3 : Below w.heap.size w w3 := hbe2.trans (hb3'.mono hbe2.size)
      obtain ⟨⟨v0, hv0⟩, hf0⟩ := hr3.spot n hlt
      have HR : Hid (AckRow (w3.setCell ⟨w.heap.size, n, none⟩ (.pointer (some ⟨b3, 0, none⟩))) w.heap.size O k (bs ++ [b3])) := hr3.store_at (by simp [HC3.out]) hch HNB.out hlt
      clear hr2 hr3 hb3' hbe2 hsg hch hb3
      go_wp2
      go_roundw
      case rel => exact ⟨bs ++ [b3], by simp [HNB.out]; omega, by simp [HNB.out], HR.out, hbe3.setCell (Nat.le_refl _) _⟩
      case measure => simp [intOf]; omega
    · have hbk2 : bs.length = k := by omega
      clear hlt hbk
      rw [hbk2]
      have HK : Hid (bs.length = k) := hbk2
      have hptr : ∀ j, j < k → wr.cell? ⟨w.heap.size, j, none⟩ = some (.pointer (some ⟨bs.getD j 0, 0, none⟩)) := fun j hj => hr.at j (by omega)
      obtain ⟨o0, o5, o6⟩ := hr.chain 0 (by omega)
      have p0 := hptr 0 (by omega)
      have HP : Hid (∀ j, j < k → wr.cell? ⟨w.heap.size, j, none⟩ = some (.pointer (some ⟨bs.getD j 0, 0, none⟩))) := hptr
      clear hbk2 hptr hr
      go_wp2_with fail
      by_cases hk1' : k = 1
      · refine (join_one_at _ _ _ _ _ hk1' p0).mono ?_
        rintro e w' ⟨rfl, rfl⟩
        have HK1 : Hid (k = 1) := hk1'
        clear hk1'
        go_wp2_with fail
        refine (acks_three_at _ k _ HK1.out o6 o5).mono ?_
        rintro e W ⟨G, rfl, hG0, hbW0⟩
        have hbW : Below w.heap.size w W := hbe.trans (hbW0.mono hbe.size)
        have hA : ∀ j, j < k → W.cell? ⟨w.heap.size, j, none⟩ = some (.pointer (some ⟨bs.getD j 0, 0, none⟩)) := fun j hj => old_cell hbW0 (HP.out j hj)
        have hG : ∀ j, j < k → W.cell? ⟨G, j, none⟩ = some (.pointer (some ⟨bs.getD j 0, 0, none⟩)) := fun j hj => by
          have h1 := HK1.out
          have h0 : j = 0 := by omega
          subst h0
          exact hG0
        clear hG0 hbW0 o0 o5 o6 p0 HP
        go_wp2_with fail
        go_loopw [10] (fun i wr => ∃ j : Nat, j ≤ k ∧ i = .int .i64 j ∧ Below W.heap.size W wr) (fun i _ => k - (intOf i).toNat)
        case atStart => exact ⟨0, Nat.zero_le _, rfl, Below.refl _ _⟩
        case round =>
          obtain ⟨j, hj, rfl, hbl⟩ := hrel
          by_cases hlt : j < k
          · have y0 := old_cell hbl (hG j hlt)
            have y1 := old_cell hbl (hA j hlt)
            have y2 := fun wx => neq_same ⟨bs.getD j 0, 0, none⟩ wx
            have i1 : (j : Int) < (k : Int) := by omega
            clear hG hA
            generalize bs.getD j 0 = bj at *
            go_wp2
            go_quiet (fail)
            go_wp2
            go_roundw
            case rel => exact ⟨j + 1, by omega, by go_num, below_drewN hbl _⟩
            case measure => simp [intOf]; omega
          · clear hG hA
            go_wp2
            go_ret
            exact ⟨rfl, hbW.trans (hbl.mono hbW.size)⟩
      · refine (join_more _ _ _ _ O _ (by omega) (by omega) p0 o0).mono ?_
        rintro e w' ⟨rfl, rfl⟩
        have hbJ : Below wr.heap.size wr (wr.alloc (.cells (joCells O (3 * (k : Int)) (.slice (some ⟨w.heap.size, 0, none⟩) k k)) 41)) := (Below.refl _ _).alloc (Nat.le_refl _) _
        have hJ6 : (wr.alloc (.cells (joCells O (3 * (k : Int)) (.slice (some ⟨w.heap.size, 0, none⟩) k k)) 41)).cell? ⟨wr.heap.size, 6, none⟩ = some (.slice (some ⟨w.heap.size, 0, none⟩) k k) := by
          rw [cell_of_row _ wr.heap.size 6 _ _ _ (heap_alloc_new wr _)]; rfl
        generalize wr.alloc (.cells (joCells O (3 * (k : Int)) (.slice (some ⟨w.heap.size, 0, none⟩) k k)) 41) = W at hbJ hJ6 ⊢
        have hbW : Below w.heap.size w W := hbe.trans (hbJ.mono hbe.size)
        have hA : ∀ j, j < k → W.cell? ⟨w.heap.size, j, none⟩ = some (.pointer (some ⟨bs.getD j 0, 0, none⟩)) := fun j hj => old_cell hbJ (HP.out j hj)
        have hG := hA
        clear hbJ o0 o5 o6 p0 HP
        go_wp2_with fail
        refine (acks_joined _ _ _ _ _ hJ6).mono ?_
        rintro e w' ⟨rfl, rfl⟩
        clear hJ6
        go_wp2_with fail
        go_loopw [10] (fun i wr => ∃ j : Nat, j ≤ k ∧ i = .int .i64 j ∧ Below W.heap.size W wr) (fun i _ => k - (intOf i).toNat)
        case atStart => exact ⟨0, Nat.zero_le _, rfl, Below.refl _ _⟩
        case round =>
          obtain ⟨j, hj, rfl, hbl⟩ := hrel
          by_cases hlt : j < k
          · have y0 := old_cell hbl (hG j hlt)
            have y1 := old_cell hbl (hA j hlt)
            have y2 := fun wx => neq_same ⟨bs.getD j 0, 0, none⟩ wx
            have i1 : (j : Int) < (k : Int) := by omega
            clear hG hA
            generalize bs.getD j 0 = bj at *
            go_wp2
            go_quiet (fail)
            go_wp2
            go_roundw
            case rel => exact ⟨j + 1, by omega, by go_num, below_drewN hbl _⟩
            case measure => simp [intOf]; omega
          · clear hG hA
            go_wp2
            go_ret
            exact ⟨rfl, hbW.trans (hbl.mono hbW.size)⟩

end Go.Proofs.Ybulkaqsg
