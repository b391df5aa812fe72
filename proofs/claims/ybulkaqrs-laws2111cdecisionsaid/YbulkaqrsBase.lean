import Derived.Test.YbulkaqrsRows
import Derived.WalkKit
import Derived.ProofKit
import Derived.OpenShut
import Derived.ShutString
import Derived.ChangeOld
import Derived.Below
import Derived.Deep.RegionHeldLaw
import Derived.Deep.AppendLies
import Derived.Deep.QuietTactic
import Derived.BigQuiet
namespace Go.Proofs.Ybulkaqrs
open Go.ChangeShapes Go.WideShapes Go.ChangeAt Go.RowKit
set_option linter.unusedVariables false

/-- What 'zzs2111coid' computes. -/
def oidS (n : Int) : ByteArray := if (n % 3 == 0) = true then ⟨#[50, 46, 53, 46, 50, 57, 46, 49, 57]⟩ else if (n % 3 == 1) = true then ⟨#[50, 46, 53, 46, 50, 57, 46, 49, 53]⟩ else ⟨#[49, 46, 50, 46, 56, 52, 48, 46, 49]⟩

theorem ret_string {a b : ByteArray} (h : a = b) : Ending.returned (.string a) = .returned (.string b) := by rw [h]

theorem coid_any (n : Int) (h0 : 0 ≤ n) (h1 : n ≤ 255) (w : World) :
    Calls Yba.prog 5 #[.int .u8 n] w fun e w' => e = .returned (.string (oidS n)) ∧ w = w' := by
  by_cases c0 : (n % 3 == 0) = true
  · have HO : Hid (oidS n = ⟨#[50, 46, 53, 46, 50, 57, 46, 49, 57]⟩) := if_pos c0
    go_enter Yba.func5, Yba.ntmps5
    go_wp2
    go_ret
    exact ⟨ret_string HO.out.symm, rfl⟩
  · have c0' : (n % 3 == 0) = false := by simpa using c0
    by_cases c1 : (n % 3 == 1) = true
    · have HO : Hid (oidS n = ⟨#[50, 46, 53, 46, 50, 57, 46, 49, 53]⟩) := (if_neg c0).trans (if_pos c1)
      clear c0
      go_enter Yba.func5, Yba.ntmps5
      go_wp2
      go_ret
      exact ⟨ret_string HO.out.symm, rfl⟩
    · have HO : Hid (oidS n = ⟨#[49, 46, 50, 46, 56, 52, 48, 46, 49]⟩) := (if_neg c0).trans (if_neg c1)
      have c1' : (n % 3 == 1) = false := by simpa using c1
      clear c0 c1
      go_enter Yba.func5, Yba.ntmps5
      go_wp2
      go_ret
      exact ⟨ret_string HO.out.symm, rfl⟩

/-- Is there one with that identifier; is one of those critical. -/
def presB (T : ByteArray) (l : List (ByteArray × Bool)) : Bool := l.any fun e => e.1.toList == T.toList
def critB (T : ByteArray) (l : List (ByteArray × Bool)) : Bool := l.any fun e => e.1.toList == T.toList && e.2

/-- The seven cells of an extension behind its identifier and its mark, as a literal that names neither lays them. -/
def tail7 : List Value := [.int .u8 0, .bool false, .int .u32 0, .int .i64 0, .slice none 0 0, .slice none 0 0, .nilIface]
def extCells (e : ByteArray × Bool) : List Value := [.string e.1, .bool e.2, .int .u8 0, .bool false, .int .u32 0, .int .i64 0, .slice none 0 0, .slice none 0 0, .nilIface]
def zeroExt : Value := .agg #[.string ⟨#[]⟩, .bool false, .int .u8 0, .bool false, .int .u32 0, .int .i64 0, .slice none 0 0, .slice none 0 0, .nilIface]
theorem ext_info : (Yba.prog.info? 45).map (fun i => (i.zero, i.size, i.bytes)) = some (some zeroExt, 9, 104) := by kernel_rfl

/-- A certificate at block b: its extensions are es, in another block g. -/
def CertAt (w : World) (b : Nat) (es : List (ByteArray × Bool)) : Prop :=
  ∃ ao cap, w.cell? ⟨b, 60, none⟩ = some (.slice ao es.length cap) ∧ es.length ≤ 1024 ∧
    (es.length = 0 ∨ ∃ g, ao = some ⟨g, 0, none⟩ ∧ ∀ i, i < es.length → ∀ j, j < 9 → w.cell? ⟨g, i * 9 + j, none⟩ = (extCells (es.getD i (⟨#[]⟩, false)))[j]?)

theorem CertAt.later {w w' : World} {b : Nat} {es : List (ByteArray × Bool)} (h : CertAt w b es) (hb : Below w.heap.size w w') : CertAt w' b es := by
  obtain ⟨ao, cap, h1, h2, h3⟩ := h
  refine ⟨ao, cap, (hb.cell (World.block_lt_of_cell? w _ h1)).trans h1, h2, ?_⟩
  rcases h3 with h3 | ⟨g, rfl, h4⟩
  · exact .inl h3
  · refine .inr ⟨g, rfl, fun i hi j hj => ?_⟩
    have h5 := h4 i hi j hj
    have h6 : (extCells (es.getD i (⟨#[]⟩, false)))[j]?.isSome = true := by
      have : j < (extCells (es.getD i (⟨#[]⟩, false))).length := by simpa [extCells] using hj
      rw [List.getElem?_eq_getElem this]; rfl
    obtain ⟨u, hu⟩ := Option.isSome_iff_exists.1 h6
    rw [hu] at h5 ⊢
    exact (hb.cell (World.block_lt_of_cell? w _ h5)).trans h5

theorem bcell {B : Nat} {W w1 : World} (hb : Below B W w1) : (∀ b o, b < B → w1.cell? ⟨b, o, none⟩ = W.cell? ⟨b, o, none⟩) ∧ (∀ b o, b < B → w1.frozen? ⟨b, o, none⟩ = W.frozen? ⟨b, o, none⟩) :=
  ⟨fun b o h => hb.cell (p := ⟨b, o, none⟩) h, fun b o h => hb.frozen (p := ⟨b, o, none⟩) h⟩

theorem take_snocE (l : List (ByteArray × Bool)) (k : Nat) (o : ByteArray) (c : Bool) (h : k < l.length) (he : l.getD k (⟨#[]⟩, false) = (o, c)) : l.take (k + 1) = l.take k ++ [(o, c)] := by
  rw [List.take_succ_eq_append_getElem h, ← he]; simp [h]
theorem presB_snoc (T : ByteArray) (l : List (ByteArray × Bool)) (o : ByteArray) (c : Bool) : presB T (l ++ [(o, c)]) = (presB T l || o.toList == T.toList) := by
  simp [presB]
theorem critB_snoc (T : ByteArray) (l : List (ByteArray × Bool)) (o : ByteArray) (c : Bool) : critB T (l ++ [(o, c)]) = (critB T l || (o.toList == T.toList && c)) := by
  simp [critB]
set_option maxHeartbeats 1000000 in
theorem marked_any (b : Nat) (T N : ByteArray) (es : List (ByteArray × Bool)) (w : World) (h : CertAt w b es) :
    Calls Yba.prog 10 #[.pointer (some ⟨b, 0, none⟩), .agg #[.string T, .string N]] w fun e w' => e = .returned (.tuple #[.bool (presB T es), .bool (critB T es)]) ∧ Below w.heap.size w w' := by
  obtain ⟨ao, cap, h1, h2, h3⟩ := h
  have hbl := World.block_lt_of_cell? w _ h1
  have hne : ¬ b = w.heap.size := by simp at hbl; omega
  rcases h3 with h3 | ⟨g, rfl, h4⟩
  · have he : es = [] := List.length_eq_zero_iff.1 h3
    subst he
    simp only [List.length_nil] at h1
    go_enter Yba.func10, Yba.ntmps10
    go_wp2
    refine wp_loop_rounds 1 ?_
    rw [rounds_succ]
    go_wp2
    go_ret2
    exact ⟨rfl, (Below.refl _ _).alloc (Nat.le_refl _) _⟩
  · go_enter Yba.func10, Yba.ntmps10
    go_wp2
    go_loopw [4, 5, 13] (fun p c i wr => ∃ k : Nat, k ≤ es.length ∧ i = .int .i64 k ∧ p = .bool (presB T (es.take k)) ∧ c = .bool (critB T (es.take k)) ∧ Below (w.heap.size + 1) (w.alloc (Obj.cells #[Value.string T, Value.string N] 25)) wr) (fun _ _ i _ => es.length - (intOf i).toNat)
    case atStart => exact ⟨0, Nat.zero_le _, rfl, rfl, rfl, Below.refl _ _⟩
    case round =>
      obtain ⟨k, hk, rfl, rfl, rfl, hbe⟩ := hrel
      obtain ⟨hc, hf⟩ := bcell hbe
      have hT : wr.cell? ⟨w.heap.size, 0, none⟩ = some (.string T) := by
        rw [hc _ _ (by omega)]; simp
      by_cases hlt : k < es.length
      · obtain ⟨⟨o, c⟩, he⟩ : ∃ e, es.getD k (⟨#[]⟩, false) = e := ⟨_, rfl⟩
        have hx := h4 k hlt
        have hgl : g < w.heap.size := by
          have := hx 0 (by omega)
          exact World.block_lt_of_cell? w _ this
        have x : ∀ j, j < 9 → wr.cell? ⟨g, k * 9 + j, none⟩ = (extCells (o, c))[j]? := fun j hj => by
          rw [hc _ _ (by omega), ← he, ← hx j hj]
          exact World.cell?_alloc_past _ _ _ hgl
        have x0 : wr.cell? ⟨g, k * 9, none⟩ = some (.string o) := x 0 (by omega)
        have x1 : wr.cell? ⟨g, k * 9 + 1, none⟩ = some (.bool c) := x 1 (by omega)
        have x2 : wr.cell? ⟨g, k * 9 + 2, none⟩ = some (.int .u8 0) := x 2 (by omega)
        have x3 : wr.cell? ⟨g, k * 9 + 3, none⟩ = some (.bool false) := x 3 (by omega)
        have x4 : wr.cell? ⟨g, k * 9 + 4, none⟩ = some (.int .u32 0) := x 4 (by omega)
        have x5 : wr.cell? ⟨g, k * 9 + 5, none⟩ = some (.int .i64 0) := x 5 (by omega)
        have x6 : wr.cell? ⟨g, k * 9 + 6, none⟩ = some (.slice none 0 0) := x 6 (by omega)
        have x7 : wr.cell? ⟨g, k * 9 + 7, none⟩ = some (.slice none 0 0) := x 7 (by omega)
        have x8 : wr.cell? ⟨g, k * 9 + 8, none⟩ = some .nilIface := x 8 (by omega)
        have hws : w.heap.size < wr.heap.size := by have := hbe.size; simp at this; omega
        have hsn := take_snocE es k o c hlt he
        have HP : Hid (presB T (es.take (k + 1)) = (presB T (es.take k) || o.toList == T.toList)) := by rw [hsn]; exact presB_snoc _ _ _ _
        have HC : Hid (critB T (es.take (k + 1)) = (critB T (es.take k) || (o.toList == T.toList && c))) := by rw [hsn]; exact critB_snoc _ _ _ _
        clear hsn x hx he hc hf h4
        generalize presB T (es.take k) = P0 at HP ⊢
        generalize critB T (es.take k) = C0 at HC ⊢
        cases hq : (o.toList == T.toList) <;> cases C0
        all_goals
          go_wp2
          go_roundw
          case rel => exact ⟨k + 1, by omega, by go_num, by rw [HP.out, hq]; simp, by rw [HC.out, hq]; simp, by first | exact hbe.alloc (by omega) _ | exact hbe⟩
          case measure => simp [intOf]; omega
      · have he : es.take k = es := List.take_of_length_le (by omega)
        rw [he]
        clear he hc hf h4
        go_wp2
        go_ret2
        exact ⟨rfl, ((Below.refl _ _).alloc (Nat.le_refl _) _).trans (hbe.mono (by omega))⟩

end Go.Proofs.Ybulkaqrs
