import Derived.Test.YbulkaqsgAcks
namespace Go.Proofs.Ybulkaqsg
open Go.ChangeShapes Go.WideShapes Go.ChangeAt Go.RowKit
set_option linter.unusedVariables false

theorem acks_plain (b : Nat) (O : ByteArray) (ss : List Int) (k : Nat) (w : World) (h : ChainAt w O b ss.reverse) (hn : ss.length ≤ 300) (h3 : ss.length ≠ 3) (hk : ss.length / 3 = k) :
    Calls Yba.prog 7 #[.pointer (some ⟨b, 0, none⟩)] w fun e w' => ∃ a' cap' bs, e = .returned (.slice a' k cap') ∧ bs.length = k ∧ AcksAt w' O ss a' bs ∧ Below w.heap.size w w' := by
  by_cases h0 : ss.length = 0
  · have hs : ss = [] := List.length_eq_zero_iff.1 h0
    subst hs
    have hk0 : k = 0 := by simpa using hk.symm
    subst hk0
    exact acks_empty b O w h
  · have := acks_many b O ss.reverse w h (by simp; omega) (by simpa using hn) (by simpa using h3)
    rw [List.reverse_reverse, List.length_reverse, hk] at this
    exact this

theorem signers_three (b : Nat) (O : ByteArray) (s3 : List Int) (w : World) (h : ChainAt w O b s3.reverse) (hl : s3.length = 3) :
    Calls Yba.prog 9 #[.pointer (some ⟨b, 0, none⟩)] w fun e w' => ∃ G, e = .returned (.slice (some ⟨G, 0, none⟩) 3 3) ∧ (∀ i, i < 3 → w'.cell? ⟨G, i, none⟩ = some (.int .i64 (s3.getD i 0))) ∧ Below w.heap.size w w' := by
  have := signers_any b O s3.reverse w h (by simp; omega)
  rw [List.reverse_reverse, List.length_reverse, hl] at this
  exact this

theorem part_at (ss : List Int) (j t : Nat) (ht : t < 3) (hj : 3 * j + 3 ≤ ss.length) : ((ss.drop (3 * j)).take 3).getD t 0 = ss.getD (3 * j + t) 0 := by
  simp [List.getD, ht]

set_option maxRecDepth 100000 in
set_option maxHeartbeats 2000000 in
theorem chunks_three (O : ByteArray) (a : Option Addr) (cap : Nat) (ss : List Int) (w : World) (h : IntsAt w a ss) (hn : ss.length = 3) :
    Calls Yba.prog 3 #[.string O, .slice a 3 cap] w fun e w' => e = .returned (.bool true) ∧ Below w.heap.size w w' := by
  go_enter Yba.func3, Yba.ntmps3
  go_wp2_with fail
  refine (csigs_at a 3 cap ss _ h hn (by omega)).mono ?_
  rintro e w1 ⟨a1, cap1, rfl, hsg, hb1⟩
  clear h
  go_wp2_with fail
  refine (new_len O a1 3 cap1 ss _ hsg hn (by omega)).mono ?_
  rintro e w2 ⟨b, rfl, hch, hwb, hb2⟩
  have hbw : Below w.heap.size w w2 := hb1.trans (hb2.mono hb1.size)
  obtain ⟨pr, s0, hh⟩ := hch.head
  rw [List.length_reverse, hn] at hh
  have c5 : w2.cell? ⟨b, 5, none⟩ = some (.int .i64 3) := ch_cell hh 5
  have c6 : w2.cell? ⟨b, 6, none⟩ = some (.slice none 0 0) := ch_cell hh 6
  have HB : Hid (Below w.heap.size w w2) := hbw
  clear hsg hb1 hch hb2 hbw hh hn
  go_wp2_with fail
  refine (acks_three_at b 1 _ rfl c6 c5).mono ?_
  rintro e w3 ⟨G, rfl, hG, hb3⟩
  have HB3 : Hid (Below w.heap.size w w3) := HB.out.trans (hb3.mono HB.out.size)
  have hes := fun wx => eql_same ⟨b, 0, none⟩ wx
  clear c5 c6 HB hb3
  go_wp2
  go_ret
  exact ⟨rfl, HB3.out⟩

set_option maxRecDepth 100000 in
set_option maxHeartbeats 4000000 in
theorem chunks_core (O : ByteArray) (a : Option Addr) (cap : Nat) (ss : List Int) (k : Nat) (w : World) (h : IntsAt w a ss) (hn : ss.length ≤ 300) (h3 : ss.length ≠ 3) (hk : ss.length / 3 = k) :
    Calls Yba.prog 3 #[.string O, .slice a ss.length cap] w fun e w' => e = .returned (.bool true) ∧ Below w.heap.size w w' := by
  have hq : ((ss.length : Int) / 3) = (k : Int) := by omega
  have h3k : 3 * k ≤ ss.length := by omega
  have hlen : ¬ (300 : Int) < (ss.length : Int) := by omega
  have hn3 : ((ss.length : Int) == 3) = false := beq_eq_false_iff_ne.2 (by omega)
  have HK : Hid (ss.length / 3 = k) := hk
  have HX : Hid (IntsAt w a ss) := h
  clear hk
  go_enter Yba.func3, Yba.ntmps3
  go_wp2_with fail
  refine (csigs_at a ss.length cap ss _ h rfl hn).mono ?_
  rintro e w1 ⟨a1, cap1, rfl, hsg, hb1⟩
  clear h
  go_wp2_with fail
  refine (new_len O a1 ss.length cap1 ss _ hsg rfl hn).mono ?_
  rintro e w2 ⟨b, rfl, hch, hwb, hb2⟩
  have HB : Hid (Below w.heap.size w w2) := hb1.trans (hb2.mono hb1.size)
  clear hsg hb1 hb2
  go_wp2_with fail
  refine (acks_plain b O ss k _ hch hn h3 HK.out).mono ?_
  rintro e W ⟨aG, capG, bs, rfl, hbs, hAck, hb3⟩
  have HBW : Hid (Below w.heap.size w W) := HB.out.trans (hb3.mono HB.out.size)
  have HBS : Hid (bs.length = k) := hbs
  have HAK : Hid (AcksAt W O ss aG bs) := hAck
  clear hch hwb HB hb3 hbs hAck HK
  go_wp2
  go_loopw [42] (fun i wr => ∃ j : Nat, j ≤ k ∧ i = .int .i64 j ∧ Below W.heap.size W wr) (fun i _ => k - (intOf i).toNat)
  case atStart => exact ⟨0, Nat.zero_le _, rfl, Below.refl _ _⟩
  case round =>
    obtain ⟨j, hj, rfl, hbe⟩ := hrel
    by_cases hlt : j < k
    · rcases HAK.out.1 with hz | ⟨G, rfl, hG⟩
      · exact absurd hlt (by rw [← HBS.out, hz]; omega)
      rcases HX.out with hz | ⟨g, off, rfl, hS⟩
      · omega
      have hjb : j < bs.length := by rw [HBS.out]; exact hlt
      have y0 := old_cell hbe (hG j hjb)
      have hch := (HAK.out.2 j hjb).later hbe
      have hl3 : ((ss.drop (3 * j)).take 3).length = 3 := by simp; omega
      have HL3 : Hid (((ss.drop (3 * j)).take 3).length = 3) := hl3
      obtain ⟨pr, s0, hh⟩ := hch.head
      rw [List.length_reverse, hl3] at hh
      have q0 : wr.cell? ⟨bs.getD j 0, 0, none⟩ = some (.string O) := ch_cell hh 0
      have q5 : wr.cell? ⟨bs.getD j 0, 5, none⟩ = some (.int .i64 3) := ch_cell hh 5
      have q6 : wr.cell? ⟨bs.getD j 0, 6, none⟩ = some (.slice none 0 0) := ch_cell hh 6
      have HCH : Hid (ChainAt wr O (bs.getD j 0) ((ss.drop (3 * j)).take 3).reverse) := hch
      have HSG : Hid (∀ i, i < ss.length → wr.cell? ⟨g, off + i, none⟩ = some (.int .i64 (ss.getD i 0))) := fun i hi => old_cell hbe (old_cell HBW.out (hS i hi))
      have HEQ : Hid (∀ t, t < 3 → ((ss.drop (3 * j)).take 3).getD t 0 = ss.getD (3 * j + t) 0) := fun t ht => part_at ss j t ht (by omega)
      have b1 : 3 * j + 3 ≤ ss.length := by omega
      unfold ptr at y0
      clear hG hS hh hch hjb hl3
      generalize bs.getD j 0 = bj at *
      generalize (ss.drop (3 * j)).take 3 = s3 at *
      go_wp2_with (go_at_call 8; refine (len_any _ _ _ q5).mono ?_; rintro e w' ⟨rfl, rfl⟩)
      refine (signers_three bj O s3 _ HCH.out HL3.out).mono ?_
      rintro e wS ⟨GS, rfl, hGS, hbS⟩
      have HGS : Hid (∀ i, i < 3 → wS.cell? ⟨GS, i, none⟩ = some (.int .i64 (s3.getD i 0))) := hGS
      have HSS : Hid (∀ i, i < ss.length → wS.cell? ⟨g, off + i, none⟩ = some (.int .i64 (ss.getD i 0))) := fun i hi => old_cell hbS (HSG.out i hi)
      have HBS2 : Hid (Below W.heap.size W wS) := hbe.trans (hbS.mono hbe.size)
      have i1 : (j : Int) ≤ 300 := by omega
      have i2 : 3 * (j : Int) + 3 ≤ (ss.length : Int) := by omega
      clear hGS HSG HAK HX HCH q0 q5 q6 y0 hbe hbS
      go_wp2
      go_loopw [11] (fun i wr2 => ∃ t : Nat, t ≤ 3 ∧ i = .int .i64 t ∧ Below wS.heap.size wS wr2) (fun i _ => 3 - (intOf i).toNat)
      case atStart => exact ⟨0, Nat.zero_le _, rfl, Below.refl _ _⟩
      case round =>
        obtain ⟨t, ht, rfl, hbt⟩ := hrel
        by_cases hlt3 : t < 3
        · have z0 := old_cell hbt (HGS.out t hlt3)
          have z1 := old_cell hbt (HSS.out (3 * j + t) (by omega))
          rw [HEQ.out t hlt3] at z0
          have i3 : (t : Int) < 3 := by omega
          clear HGS HSS HEQ
          generalize ss.getD (3 * j + t) 0 = x at *
          go_wp2
          go_quiet (fail)
          go_wp2
          go_roundw
          case rel => exact ⟨t + 1, by omega, by go_num, below_drewN hbt _⟩
          case measure => simp [intOf]; omega
        · have HBT : Hid (Below W.heap.size W wr) := HBS2.out.trans (hbt.mono HBS2.out.size)
          clear HGS HSS HEQ
          go_wp2
          go_roundw
          case rel => exact ⟨j + 1, by omega, by go_num, HBT.out⟩
          case measure => simp [intOf]; omega
    · clear HAK HX
      go_wp2
      go_ret
      exact ⟨rfl, HBW.out.trans (hbe.mono HBW.out.size)⟩

theorem chunks_big (O : ByteArray) (a : Option Addr) (n cap : Nat) (w : World) (h : (300 : Int) < (n : Int)) :
    Calls Yba.prog 3 #[.string O, .slice a n cap] w fun e w' => e = .returned (.bool true) ∧ Below w.heap.size w w' := by
  go_enter Yba.func3, Yba.ntmps3
  go_wp2
  go_ret
  exact ⟨rfl, Below.refl _ _⟩

end Go.Proofs.Ybulkaqsg
