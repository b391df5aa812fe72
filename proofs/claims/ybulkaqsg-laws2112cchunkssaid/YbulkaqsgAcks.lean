import Derived.Test.YbulkaqsgSigners
import Derived.Test.YbulkaqsgRound
namespace Go.Proofs.Ybulkaqsg
open Go.ChangeShapes Go.WideShapes Go.ChangeAt Go.RowKit
set_option linter.unusedVariables false

theorem own_later {w w' : World} {base : Nat} {e : TypeId} {size : Nat} {v : Value} {n : Nat} {xs : List Value} (h : w.ownsRow base e size v n xs) (hb : Below w.heap.size w w') : w'.ownsRow base e size v n xs := by
  obtain ⟨h1, h2⟩ := h
  refine ⟨h1, ?_⟩
  rcases h2 with h2 | ⟨g, cap, cur, hv, hg, hh, r⟩
  · exact .inl h2
  · exact .inr ⟨g, cap, cur, hv, hg, (hb.block g (Array.getElem?_eq_some_iff.1 hh).1).trans hh, r⟩

theorem chain_append {w w' : World} {base : Nat} {v : Value} {n : Nat} {xs : List Value} (hown : w.ownsRow base 23 1 v n xs) (hg : w.grownBy w' v.ownBlock) {O : ByteArray} {b : Nat} {l : List Int} (h : ChainAt w O b l) : ChainAt w' O b l :=
  h.move fun b c hc => by
    have hlt : b < w.heap.size := (Array.getElem?_eq_some_iff.1 hc).1
    have hne : some b ≠ v.ownBlock := fun e => by
      rcases hown.2 with ⟨rfl, _⟩ | ⟨g, cap, cur, rfl, _, hh, _⟩
      · simp [Value.ownBlock] at e
      · simp [Value.ownBlock] at e
        rw [← e, hc] at hh
        simp at hh
    exact (hg.block b hlt hne).trans hc

def ptr (b : Nat) : Value := .pointer (some ⟨b, 0, none⟩)

theorem news_ptr (w : World) (b : Nat) : ∀ j u, [ptr b][j]? = some u → (w.alloc (.cells #[ptr b] 23)).cell? ((⟨w.heap.size, 0, none⟩ : Addr).add j) = some u :=
  fun j u hu => World.news_of_block (heap_alloc_new w (.cells #[ptr b] 23)) j u (by simpa using hu)

theorem one_ptr (b : Nat) : ∀ u ∈ [ptr b], u.oneCell' = true := by
  intro u hu
  simp at hu
  subst hu
  rfl

theorem SigsAt.cut {w : World} {g off : Nat} {ss : List Int} (h : ∀ i, i < ss.length → w.cell? ⟨g, off + i * 2, none⟩ = some (.int .i64 (ss.getD i 0)) ∧ w.cell? ⟨g, off + i * 2 + 1, none⟩ = some (.slice none 0 0)) (m : Nat) (hm : 3 * m + 3 ≤ ss.length) : SigsAt w (some ⟨g, off + 3 * m * 2, none⟩) ((ss.drop (3 * m)).take 3) := by
  refine .inr ⟨g, off + 3 * m * 2, rfl, fun j hj => ?_⟩
  have hj3 : j < 3 := by simp at hj; omega
  obtain ⟨h1, h2⟩ := h (3 * m + j) (by omega)
  have e : off + (3 * m + j) * 2 = off + 3 * m * 2 + j * 2 := by omega
  rw [e] at h1 h2
  rw [h1, h2]
  simp [List.getD, hj3]

/-- What acks gives for a plain chain: one chain of three signers for each full group of three. -/
def AcksAt (w : World) (O : ByteArray) (ss : List Int) (a : Option Addr) (bs : List Nat) : Prop :=
  (bs.length = 0 ∨ ∃ g, a = some ⟨g, 0, none⟩ ∧ ∀ j, j < bs.length → w.cell? ⟨g, j, none⟩ = some (ptr (bs.getD j 0))) ∧ ∀ j, j < bs.length → ChainAt w O (bs.getD j 0) ((ss.drop (3 * j)).take 3).reverse

theorem chains_snoc {w : World} {O : ByteArray} {f : Nat → List Int} {bs : List Nat} {b : Nat} (h : ∀ j, j < bs.length → ChainAt w O (bs.getD j 0) (f j)) (hb : ChainAt w O b (f bs.length)) : ∀ j, j < (bs ++ [b]).length → ChainAt w O ((bs ++ [b]).getD j 0) (f j) := by
  intro j hj
  simp only [List.length_append, List.length_cons, List.length_nil] at hj
  by_cases e : j = bs.length
  · subst e
    simpa [List.getD] using hb
  · have e2 : (bs ++ [b]).getD j 0 = bs.getD j 0 := by simp [List.getD, List.getElem?_append_left (show j < bs.length by omega)]
    rw [e2]
    exact h j (by omega)

theorem acks_end {w : World} {base : Nat} {v : Value} {bs : List Nat} (h : w.ownsRow base 23 1 v bs.length (bs.map ptr)) : ∃ a cap, v = .slice a bs.length cap ∧ (bs.length = 0 ∨ ∃ g, a = some ⟨g, 0, none⟩ ∧ ∀ j, j < bs.length → w.cell? ⟨g, j, none⟩ = some (ptr (bs.getD j 0))) := by
  rcases h.2 with ⟨hv, h0⟩ | ⟨g, cap, cur, hv, _⟩
  · exact ⟨none, 0, by rw [hv, h0], .inl h0⟩
  · refine ⟨_, cap, hv, .inr ⟨g, rfl, fun j hj => ?_⟩⟩
    rw [hv] at h
    rw [h.cellAt j (by omega)]
    simp [hj]

theorem base1 {w1 wr wn : World} (h1 : Below w1.heap.size w1 wr) (h2 : Below wr.heap.size wr wn) (o : Obj) : w1.heap.size ≤ (wn.alloc o).heap.size := by
  have := h1.size
  have := h2.size
  simp; omega

theorem below4 {w1 wr wn w4 : World} {v : Value} {n : Nat} {xs : List Value} {o : Obj} (h1 : Below w1.heap.size w1 wr) (h2 : Below wr.heap.size wr wn) (hown : wr.ownsRow w1.heap.size 23 1 v n xs) (hg : (wn.alloc o).grownBy w4 v.ownBlock) : Below w1.heap.size w1 w4 := by
  have hb : Below w1.heap.size w1 wn := h1.trans (h2.mono h1.size)
  exact (hb.alloc hb.size o).grown hg (base1 h1 h2 o) (fun k hk => (hown.lt k hk).1)

theorem slice_three (g off n cap m : Nat) (h1 : 3 * m + 3 ≤ n) (h2 : n ≤ cap) (w : World) :
    (Instr.slice 25 (.slice (some ⟨g, off, none⟩) n cap) (some (.int .i64 (3 * (m : Int)))) (some (.int .i64 (3 * (m : Int) + 3))) none).run Yba.prog w = .ok (.slice (some ⟨g, off + 3 * m * 2, none⟩) 3 (cap - 3 * m)) w := by
  obtain ⟨i0, hi, hz0, hz1, hz2⟩ := info_parts sig_info
  have he : Yba.prog.elem 25 = 31 := by kernel_rfl
  rw [run_slice_lh w 25 (some ⟨g, off, none⟩) n cap (by rw [he]; exact Yba.underlying25) .i64 .i64 (3 * (m : Int)) (3 * (m : Int) + 3) (by omega) (by omega) (by omega), he]
  have e1 : (3 * (m : Int)).toNat = 3 * m := by omega
  have e2 : (3 * (m : Int) + 3).toNat = 3 * m + 3 := by omega
  rw [e1, e2]
  have hne2 : ¬ (cap = 3 * m) := by omega
  simp [sizeOf, typeInfo, hi, hz1, sliced, Addr.add, hne2]

theorem chain_through {wr wn w4 : World} {base : Nat} {v : Value} {n : Nat} {xs : List Value} {o : Obj} (h2 : Below wr.heap.size wr wn) (hown : wr.ownsRow base 23 1 v n xs) (hg : (wn.alloc o).grownBy w4 v.ownBlock) {O : ByteArray} {b : Nat} {l : List Int} (h : ChainAt wn O b l) : ChainAt w4 O b l :=
  chain_append ((own_later hown h2).alloc o) hg (h.later ((Below.refl _ _).alloc (Nat.le_refl _) o))

theorem own_snoc {w : World} {base : Nat} {v : Value} {bs : List Nat} {b : Nat} (h : w.ownsRow base 23 1 v (bs.length + 1) (bs.map ptr ++ [ptr b])) : w.ownsRow base 23 1 v (bs ++ [b]).length ((bs ++ [b]).map ptr) := by
  simpa using h

theorem ret_slice {a : Option Addr} {n m c : Nat} (h : n = m) : Ending.returned (.slice a n c) = .returned (.slice a m c) := by rw [h]

theorem new_drew (O : ByteArray) (a : Option Addr) (n cap : Nat) (ss : List Int) (w : World) (h : SigsAt w a ss) (hl : ss.length = n) (hn : n ≤ 300) :
    Calls Yba.prog 5 #[.string O, .slice a n cap] w.drew fun e w' => ∃ b, e = .returned (.pointer (some ⟨b, 0, none⟩)) ∧ ChainAt w' O b ss.reverse ∧ w.heap.size ≤ b ∧ Below w.heap.size w w' := by
  refine (new_len O a n cap ss w.drew h hl hn).mono ?_
  rintro e w1 ⟨b, he, h1, h2, h3⟩
  exact ⟨b, he, h1, h2, below_undrew h3⟩

set_option maxRecDepth 100000 in
set_option maxHeartbeats 2000000 in
theorem acks_many (b : Nat) (O : ByteArray) (l : List Int) (w : World) (h : ChainAt w O b l) (h0 : 0 < l.length) (hn : l.length ≤ 300) (h3 : l.length ≠ 3) :
    Calls Yba.prog 7 #[.pointer (some ⟨b, 0, none⟩)] w fun e w' => ∃ a' cap' bs, e = .returned (.slice a' (l.length / 3) cap') ∧ bs.length = l.length / 3 ∧ AcksAt w' O l.reverse a' bs ∧ Below w.heap.size w w' := by
  obtain ⟨i0, hi, hz0, hz1, hz2⟩ := info_parts ptr_info
  obtain ⟨pr, s0, hh⟩ := h.head
  have c0 : w.cell? ⟨b, 0, none⟩ = some (.string O) := ch_cell hh 0
  have c5 : w.cell? ⟨b, 5, none⟩ = some (.int .i64 (l.length : Int)) := ch_cell hh 5
  have c6 : w.cell? ⟨b, 6, none⟩ = some (.slice none 0 0) := ch_cell hh 6
  have hnl : (l.length : Int) ≤ 300 := by omega
  have hn3 : ((l.length : Int) == 3) = false := beq_eq_false_iff_ne.2 (by omega)
  have hrl : l.reverse.length = l.length := List.length_reverse
  obtain ⟨k, hk⟩ : ∃ k, k = l.length / 3 := ⟨_, rfl⟩
  have hq : ((l.length : Int) / 3) = (k : Int) := by omega
  have HK : Hid (l.length / 3 = k) := hk.symm
  have h3k : 3 * k ≤ l.length := by omega
  have h3k2 : l.length < 3 * k + 3 := by omega
  clear hk hh
  go_enter Yba.func7, Yba.ntmps7
  go_wp2_with (first
    | (go_at_call 12; refine (sigs_some _ O l _ h h0 hn).mono ?_; rintro e w1 ⟨a1, cap1, rfl, hc1, hc2, hsg, hb1⟩)
    | (at_make; refine wpList_make_own _ rfl (.const (.int .i64 0)) (.tmp 26) 27 rfl w1.heap.size 23 i0 (.pointer none) 1 Yba.underlying27 hi hz0 hz1 .i64 .i64 _ k rfl rfl rfl (by rw [hz2]; omega) (by unfold maxLen; omega) (Nat.le_refl _) ?_; intro w2 hown2 hg2))
  have hbe2 : Below w1.heap.size w1 w2 := (Below.refl _ _).grown hg2 (Nat.le_refl _) (by simp)
  have hcO : w1.cell? ⟨b, 0, none⟩ = some (.string O) := old_cell hb1 c0
  have h0' : ¬ l.reverse.length = 0 := by omega
  rcases hsg with hz | ⟨g, off, rfl, hsg⟩
  · exact absurd hz h0'
  have HSG : Hid (∀ i, i < l.reverse.length → w1.cell? ⟨g, off + i * 2, none⟩ = some (.int .i64 (l.reverse.getD i 0)) ∧ w1.cell? ⟨g, off + i * 2 + 1, none⟩ = some (.slice none 0 0)) := hsg
  have HRL : Hid (l.reverse.length = l.length) := hrl
  have HB1 : Hid (Below w.heap.size w w1) := hb1
  unfold maxLen at hc2
  clear hsg hg2 h0' hrl c0 c5 c6 h hb1
  go_loopw [4, 5] (fun v i wr => ∃ bs : List Nat, bs.length ≤ k ∧ i = .int .i64 (3 * (bs.length : Int)) ∧ wr.ownsRow w1.heap.size 23 1 v bs.length (bs.map ptr) ∧ (∀ j, j < bs.length → ChainAt wr O (bs.getD j 0) ((l.reverse.drop (3 * j)).take 3).reverse) ∧ Below w1.heap.size w1 wr) (fun _ i _ => 3 * k + 3 - (intOf i).toNat)
  case atStart => exact ⟨[], Nat.zero_le _, rfl, hown2, fun j hj => absurd hj (Nat.not_lt_zero _), hbe2⟩
  case round =>
    obtain ⟨bs, hbk, rfl, hown, hchs, hbe⟩ := hrel
    clear hown2 hbe2
    by_cases hlt : bs.length < k
    · have hcut : SigsAt wr (some ⟨g, off + 3 * bs.length * 2, none⟩) ((l.reverse.drop (3 * bs.length)).take 3) := SigsAt.cut (fun i hi => ⟨old_cell hbe (HSG.out i hi).1, old_cell hbe (HSG.out i hi).2⟩) bs.length (by rw [HRL.out]; omega)
      have HC3 : Hid (((l.reverse.drop (3 * bs.length)).take 3).length = 3) := by show _ = 3; simp; omega
      have HF : Hid (∀ j, j < bs.length → ChainAt wr O (bs.getD j 0) ((l.reverse.drop (3 * j)).take 3).reverse) := hchs
      have b1 : (3 : Int) * (bs.length : Int) + 3 ≤ (l.length : Int) := by omega
      have b2 : (l.length : Int) ≤ (cap1 : Int) := by omega
      have cO := old_cell hbe hcO
      have HCUT : Hid (SigsAt wr (some ⟨g, off + 3 * bs.length * 2, none⟩) ((l.reverse.drop (3 * bs.length)).take 3)) := hcut
      have hwr : IntKind.i64.wrap (3 * (bs.length : Int) + 3) = 3 * (bs.length : Int) + 3 := by rw [IntKind.wrap_i64]; omega
      have hsl := fun wx => slice_three g off l.length cap1 bs.length (by omega) hc1 wx
      clear hchs hcut
      go_wp2
      go_region_held_law (fun w' => w'.cell? ⟨b, 0, none⟩ = some (.string O)) (first | exact cO | exact hS1 | go_keep)
        ((first | (refine step_append_lies _ rfl (.tmp 35) (.tmp 46) 27 rfl w1.heap.size 23 i0 (.pointer none) 1 8 Yba.underlying27 hi hz0 hz1 hz2 rfl (by decide) _ bs.length (bs.map ptr) rfl ((own_later hown hbn2).alloc _) ⟨wn.heap.size, 0, none⟩ 1 1 [ptr bn] rfl rfl (news_ptr wn bn) (one_ptr bn) (by omega) (by unfold maxLen; omega) (by omega) (base1 hbe hbn2 _) _ rfl ?_; intro g4 cp4 w4 hown4 hgr4 hat4 hlt4; have hS1 := old_cell (below4 hbe hbn2 hown hgr4) hcO) | (go_at_call 5; refine (new_drew O _ 3 _ _ _ HCUT.out HC3.out (by omega)).mono ?_; rintro e wn ⟨bn, rfl, hcn, hbn1, hbn2⟩; have hS1 := old_cell hbn2 cO)))
      have HO4 : Hid (w4.ownsRow w1.heap.size 23 1 (.slice (some ⟨g4, 0, none⟩) (bs.length + 1) cp4) (bs ++ [bn]).length ((bs ++ [bn]).map ptr)) := own_snoc hown4
      have HB4 : Hid (Below w1.heap.size w1 w4) := below4 hbe hbn2 hown hgr4
      have HC4 : Hid (∀ j, j < (bs ++ [bn]).length → ChainAt w4 O ((bs ++ [bn]).getD j 0) ((l.reverse.drop (3 * j)).take 3).reverse) := chains_snoc (f := fun j => ((l.reverse.drop (3 * j)).take 3).reverse) (fun j hj => chain_through hbn2 hown hgr4 ((HF.out j hj).later hbn2)) (chain_through hbn2 hown hgr4 hcn)
      clear hown4 hgr4 hat4 hlt4 hS1 hcn hbn1 hbn2 hown hbe HF HCUT hsl cO
      go_wp2
      go_roundw
      case rel => exact ⟨bs ++ [bn], by simp; omega, by simp; go_num, HO4.out, HC4.out, HB4.out⟩
      case measure => simp [intOf]; omega
    · have hbk2 : bs.length = k := by omega
      obtain ⟨aE, capE, rfl, hE⟩ := acks_end hown
      have HA : Hid (AcksAt wr O l.reverse aE bs) := ⟨hE, hchs⟩
      have HBB : Hid (Below w.heap.size w wr) := HB1.out.trans (hbe.mono HB1.out.size)
      have HBK : Hid (bs.length = k) := hbk2
      have i1 : (l.length : Int) < 3 * (bs.length : Int) + 3 := by omega
      clear hE hchs hown hbk2 hbe HSG
      go_wp2
      go_ret
      exact ⟨aE, capE, bs, ret_slice (HBK.out.trans HK.out.symm), HBK.out.trans HK.out.symm, HA.out, HBB.out⟩

set_option maxRecDepth 100000 in
set_option maxHeartbeats 1000000 in
theorem acks_empty (b : Nat) (O : ByteArray) (w : World) (h : ChainAt w O b []) :
    Calls Yba.prog 7 #[.pointer (some ⟨b, 0, none⟩)] w fun e w' => ∃ a' cap' bs, e = .returned (.slice a' 0 cap') ∧ bs.length = 0 ∧ AcksAt w' O [] a' bs ∧ Below w.heap.size w w' := by
  obtain ⟨i0, hi, hz0, hz1, hz2⟩ := info_parts ptr_info
  have c5 : w.cell? ⟨b, 5, none⟩ = some (.int .i64 0) := ch_cell h 5
  have c6 : w.cell? ⟨b, 6, none⟩ = some (.slice none 0 0) := ch_cell h 6
  go_enter Yba.func7, Yba.ntmps7
  go_wp2_with (first
    | (go_at_call 12; refine (sigs_none _ O _ h).mono ?_; rintro e w1 ⟨rfl, hb1⟩)
    | (at_make; refine wpList_make_own _ rfl (.const (.int .i64 0)) (.tmp 26) 27 rfl w1.heap.size 23 i0 (.pointer none) 1 Yba.underlying27 hi hz0 hz1 .i64 .i64 _ 0 rfl rfl rfl (by omega) (by unfold maxLen; omega) (Nat.le_refl _) ?_; intro w2 hown2 hg2))
  have hbe2 : Below w1.heap.size w1 w2 := (Below.refl _ _).grown hg2 (Nat.le_refl _) (by simp)
  have hbw : Below w.heap.size w w2 := hb1.trans (hbe2.mono hb1.size)
  clear hown2 hg2 hbe2
  refine wp_loop_rounds 1 ?_
  rw [rounds_succ]
  go_wp2
  go_ret
  exact ⟨_, _, [], rfl, rfl, ⟨.inl rfl, fun j hj => absurd hj (Nat.not_lt_zero _)⟩, hbw⟩

end Go.Proofs.Ybulkaqsg
