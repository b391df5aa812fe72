import Derived.Test.YbulkaqrsBase
import Derived.Deep.RegionLaw
namespace Go.Proofs.Ybulkaqrs
open Go.ChangeShapes Go.WideShapes Go.ChangeAt Go.RowKit
set_option linter.unusedVariables false

/-- What is told of the slice that came in: its elements are ps. -/
def Exts (w : World) (a : Option Addr) (ps : List (Int × Bool)) : Prop :=
  (∀ i, i < ps.length → 0 ≤ (ps.getD i (0, false)).1 ∧ (ps.getD i (0, false)).1 ≤ 255) ∧
  (ps.length = 0 ∨ ∃ b off, a = some ⟨b, off, none⟩ ∧ ∀ i, i < ps.length → w.cell? ⟨b, off + i * 2, none⟩ = some (.int .u8 (ps.getD i (0, false)).1) ∧ w.cell? ⟨b, off + i * 2 + 1, none⟩ = some (.bool (ps.getD i (0, false)).2))

def flat (l : List (ByteArray × Bool)) : List Value := l.flatMap extCells
def named (ps : List (Int × Bool)) : List (ByteArray × Bool) := ps.map fun p => (oidS p.1, p.2)

theorem named_snoc (ps : List (Int × Bool)) (k : Nat) (s : Int) (c : Bool) (h : k < ps.length) (he : ps.getD k (0, false) = (s, c)) : named (ps.take (k + 1)) = named (ps.take k) ++ [(oidS s, c)] := by
  have : ps.take (k + 1) = ps.take k ++ [(s, c)] := by
    rw [List.take_succ_eq_append_getElem h, ← he]; simp [h]
  rw [this]
  simp [named]

theorem flat_snoc (l : List (ByteArray × Bool)) (e : ByteArray × Bool) : flat (l ++ [e]) = flat l ++ extCells e := by
  simp [flat]

theorem ext_one (e : ByteArray × Bool) : ∀ u ∈ extCells e, u.oneCell' = true := by
  intro u hu
  simp only [extCells, List.mem_cons, List.not_mem_nil, or_false] at hu
  rcases hu with rfl | rfl | rfl | rfl | rfl | rfl | rfl | rfl | rfl <;> rfl

theorem news_at (w : World) (o : Obj) (e : ByteArray × Bool) : ∀ j u, (extCells e)[j]? = some u → (((w.alloc o).alloc (.cells (extCells e).toArray 45)).drew).cell? ((⟨w.heap.size + 1, 0, none⟩ : Addr).add j) = some u := by
  have h : ((w.alloc o).alloc (.cells (extCells e).toArray 45)).heap[w.heap.size + 1]? = some (.cells (extCells e).toArray 45 (0, 0)) := by
    have := heap_alloc_new (w.alloc o) (.cells (extCells e).toArray 45)
    simpa using this
  intro j u hu
  exact World.news_of_block h j u (by simpa using hu)

theorem base_le {w wr : World} (h : Below w.heap.size w wr) (o p : Obj) : w.heap.size ≤ (((wr.alloc o).alloc p).drew).heap.size := by
  have := h.size
  show w.heap.size ≤ ((wr.heap.push o).push p).size
  simp; omega

theorem after_append {w wr w2 : World} {g : Nat} {row : Option Nat} (h : Below w.heap.size w wr) (o p : Obj) (hr : ∀ k, row = some k → w.heap.size ≤ k) (hg : (((wr.alloc o).alloc p).drew).grownBy w2 row) : Below w.heap.size w w2 :=
  (((h.alloc h.size o).alloc (by have := h.size; simp; omega) p).drew).grown hg (base_le h o p) hr

/-- The cells of a zero certificate: 72 of them. -/
theorem zero55 : ∃ cs : Array Value, (∀ w : World, (zeroValue 55).run Yba.prog w = .ok (.agg cs) w) ∧ cs.size = 72 :=
  ⟨(((Yba.prog.info? 55).bind (fun i => i.zero)).map (fun v => v.cells)).getD #[], fun w => by kernel_rfl, by kernel_rfl⟩

theorem flat_length (l : List (ByteArray × Bool)) : (flat l).length = l.length * 9 := by
  induction l with
  | nil => rfl
  | cons e r ih =>
    show (extCells e ++ flat r).length = _
    rw [List.length_append, ih, List.length_cons]
    simp [extCells]; omega

theorem flat_at (l : List (ByteArray × Bool)) : ∀ i, i < l.length → ∀ j, j < 9 → (flat l)[i * 9 + j]? = (extCells (l.getD i (⟨#[]⟩, false)))[j]? := by
  induction l with
  | nil => intro i hi; simp at hi
  | cons e r ih =>
    intro i hi j hj
    have hl : (extCells e).length = 9 := rfl
    show (extCells e ++ flat r)[i * 9 + j]? = _
    cases i with
    | zero => rw [List.getElem?_append_left (by omega)]; simp
    | succ i =>
      rw [List.getElem?_append_right (by omega), hl, show (i + 1) * 9 + j - 9 = i * 9 + j by omega, ih i (by simpa using hi) j hj]
      simp

theorem cert_of {W : World} {base : Nat} {v : Value} {es : List (ByteArray × Bool)} (hown : W.ownsRow base 45 9 v es.length (flat es)) (cs : Array Value) (hsz : cs.size = 72) (hn : es.length ≤ 1024) :
    CertAt (W.alloc (.cells (cs.setIfInBounds 60 v) 55)) W.heap.size es := by
  have hb : (W.alloc (.cells (cs.setIfInBounds 60 v) 55)).cell? ⟨W.heap.size, 60, none⟩ = some v := by
    rw [cell_of_row (W.alloc (.cells (cs.setIfInBounds 60 v) 55)) W.heap.size 60 (cs.setIfInBounds 60 v) 55 (0, 0) (heap_alloc_new W _)]
    simp [hsz]
  rcases hown.2 with ⟨rfl, h0⟩ | ⟨g, cap, cur, rfl, hg, hh, _⟩
  · exact ⟨none, 0, by rw [h0]; exact hb, hn, .inl h0⟩
  · refine ⟨_, cap, hb, hn, .inr ⟨g, rfl, fun i hi j hj => ?_⟩⟩
    have hlt : g < W.heap.size := (Array.getElem?_eq_some_iff.1 hh).1
    rw [World.cell?_alloc_past _ _ _ hlt, hown.cellAt (i * 9 + j) (by omega), flat_at es i hi j hj]

theorem named_length (ps : List (Int × Bool)) : (named ps).length = ps.length := by simp [named]

set_option maxHeartbeats 1000000 in
theorem build_any (a : Option Addr) (cap : Nat) (ps : List (Int × Bool)) (w : World) (h : Exts w a ps) (hn : ps.length ≤ 1024) :
    Calls Yba.prog 6 #[.slice a ps.length cap] w fun e w' => ∃ b, e = .returned (.pointer (some ⟨b, 0, none⟩)) ∧ CertAt w' b (named ps) ∧ Below w.heap.size w w' := by
  obtain ⟨hbd, h3⟩ := h
  obtain ⟨i0, hi, hz0, hz1, hz2⟩ := info_parts ext_info
  rcases h3 with h3 | ⟨b, off, rfl, h4⟩
  · have hps : ps = [] := List.length_eq_zero_iff.1 h3
    subst hps
    clear hbd h3 hn
    obtain ⟨cs, hcs, hsz⟩ := zero55
    simp only [List.length_nil]
    go_enter Yba.func6, Yba.ntmps6
    go_wp2_with (at_make; refine wpList_make_own _ rfl (.const (.int .i64 0)) (.tmp 7) 36 rfl w.heap.size 45 i0 zeroExt 9 Yba.underlying36 hi hz0 hz1 .i64 .i64 _ 0 rfl rfl rfl (by omega) (by unfold maxLen; omega) (Nat.le_refl _) ?_; intro w1 hown1 hg1)
    have hbe1 : Below w.heap.size w w1 := (Below.refl _ _).grown hg1 (Nat.le_refl _) (by simp)
    have HC : Hid (CertAt (w1.alloc (.cells (cs.setIfInBounds 60 (.slice (some ⟨w.heap.size, 0, none⟩) 0 0)) 55)) w1.heap.size (named [])) := cert_of (es := []) hown1 cs hsz (by simp)
    clear hown1 hg1
    refine wp_loop_rounds 1 ?_
    rw [rounds_succ]
    go_wp2
    go_ret
    exact ⟨_, rfl, HC.out, hbe1.alloc hbe1.size _⟩
  · go_enter Yba.func6, Yba.ntmps6
    go_wp2_with (at_make; refine wpList_make_own _ rfl (.const (.int .i64 0)) (.tmp 7) 36 rfl w.heap.size 45 i0 zeroExt 9 Yba.underlying36 hi hz0 hz1 .i64 .i64 _ ps.length rfl rfl rfl (by rw [hz2]; omega) (by unfold maxLen; omega) (Nat.le_refl _) ?_; intro w1 hown1 hg1)
    have hbe1 : Below w.heap.size w w1 := (Below.refl _ _).grown hg1 (Nat.le_refl _) (by simp)
    go_loopw [3, 11] (fun v i wr => ∃ k : Nat, k ≤ ps.length ∧ i = .int .i64 k ∧ wr.ownsRow w.heap.size 45 9 v k (flat (named (ps.take k))) ∧ Below w.heap.size w wr) (fun _ i _ => ps.length - (intOf i).toNat)
    case atStart => exact ⟨0, Nat.zero_le _, rfl, hown1, hbe1⟩
    case round =>
      obtain ⟨k, hk, rfl, hown, hbe⟩ := hrel
      by_cases hlt : k < ps.length
      · obtain ⟨⟨s, c⟩, he⟩ : ∃ e, ps.getD k (0, false) = e := ⟨_, rfl⟩
        have hx := h4 k hlt
        have hs := hbd k hlt
        rw [he] at hx hs
        obtain ⟨hs0, hs1⟩ := hs
        simp only at hs0 hs1
        have x0 : wr.cell? ⟨b, off + k * 2, none⟩ = some (.int .u8 s) := (hbe.cell (World.block_lt_of_cell? w _ hx.1)).trans hx.1
        have x1 : wr.cell? ⟨b, off + k * 2 + 1, none⟩ = some (.bool c) := (hbe.cell (World.block_lt_of_cell? w _ hx.2)).trans hx.2
        have HE : Hid (named (ps.take (k + 1)) = named (ps.take k) ++ [(oidS s, c)]) := named_snoc ps k s c hlt he
        clear hx he hbd h4 hown1 hg1 hbe1
        go_wp2
        go_region_law (first | (refine step_append_lies _ rfl (.tmp 15) (.tmp 22) 36 rfl w.heap.size 45 i0 zeroExt 9 104 Yba.underlying36 hi hz0 hz1 hz2 rfl (by decide) _ k (flat (named (ps.take k))) rfl ((hown.alloc _).alloc _).drew ⟨wr.heap.size + 1, 0, none⟩ 1 1 (extCells (oidS s, c)) rfl rfl (news_at _ _ _) (ext_one _) (by omega) (by unfold maxLen; omega) (by omega) (base_le hbe _ _) _ rfl ?_; intro g cp w2 hown2 hgr hat hlt2; have hbe2 := after_append (g := g) hbe _ _ (fun q hq => (hown.lt q hq).1) hgr) | (go_simp; go_at_call 5; refine (coid_any _ hs0 hs1 _).mono ?_; rintro e w' ⟨rfl, rfl⟩))
        all_goals
          go_wp2
          go_roundw
          case rel => exact ⟨k + 1, by omega, by go_num, by rw [HE.out, flat_snoc]; exact hown2, hbe2⟩
          case measure => simp [intOf]; omega
      · have hk2 : k = ps.length := by omega
        subst hk2
        rw [List.take_length] at hown
        obtain ⟨cs, hcs, hsz⟩ := zero55
        have HC : Hid (CertAt (wr.alloc (.cells (cs.setIfInBounds 60 u3) 55)) wr.heap.size (named ps)) := cert_of (by rw [named_length]; exact hown) cs hsz (by rw [named_length]; exact hn)
        obtain ⟨ao, cp, rfl⟩ : ∃ ao cp, u3 = .slice ao ps.length cp := by
          rcases hown.2 with ⟨h5, h6⟩ | ⟨g, cap, cur, h5, _⟩
          · exact ⟨none, 0, by rw [h5, h6]⟩
          · exact ⟨_, _, h5⟩
        clear hown1 hg1 hbe1 hown hbd h4
        go_wp2
        go_ret
        exact ⟨_, rfl, HC.out, hbe.alloc hbe.size _⟩

end Go.Proofs.Ybulkaqrs
