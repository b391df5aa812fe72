import Derived.Test.YbulkaqpoRows
import Derived.WalkKit
import Derived.ProofKit
import Derived.OpenShut
import Derived.ShutString
import Derived.ChangeOld
import Derived.Below
namespace Go.Proofs.Ybulkaqpo
open Go.ChangeShapes Go.WideShapes Go.ChangeAt Go.RowKit
set_option linter.unusedVariables false

/-- The plain function: every number is zero. -/
def allZ (l : List Int) : Bool := l.all (fun z => z == 0)

/-- How many of them are zero. -/
def cntZ (l : List Int) : Nat := (l.filter (fun z => z == 0)).length

theorem cntZ_le (l : List Int) : cntZ l ≤ l.length := by
  unfold cntZ; exact List.length_filter_le _ _

theorem allZ_cnt (l : List Int) : allZ l = ((cntZ l : Int) == (l.length : Int)) := by
  induction l with
  | nil => rfl
  | cons z r ih =>
    have h := cntZ_le r
    rw [Bool.eq_iff_iff] at ih ⊢
    simp only [allZ, cntZ, List.all_cons, List.filter_cons, Bool.and_eq_true, beq_iff_eq, List.length_cons] at ih h ⊢
    by_cases hz : z = 0
    · simp [hz] at ih ⊢; omega
    · simp [hz]; omega

theorem allZ_append (l r : List Int) : allZ (l ++ r) = (allZ l && allZ r) := by
  simp [allZ]

theorem take_snoc (l : List Int) (k : Nat) (h : k < l.length) : l.take (k + 1) = l.take k ++ [l[k]?.getD 0] := by
  rw [List.take_succ_eq_append_getElem h]; simp [h]

theorem allZ_false (l : List Int) (k : Nat) (h : k < l.length) (hn : (l[k] != 0) = true) : allZ l = false := by
  rw [Bool.eq_false_iff]
  intro ha
  unfold allZ at ha
  rw [List.all_eq_true] at ha
  have := ha l[k] (List.getElem_mem h)
  simp at this hn
  exact hn this

theorem allZ_step (l : List Int) (k : Nat) (h : k < l.length) (ha : allZ (l.take k) = true) (hn : (l[k] != 0) = false) : allZ (l.take (k + 1)) = true := by
  rw [take_snoc l k h, allZ_append, ha]
  simp at hn
  simp [allZ, h, hn]

theorem cntZ_snoc (l : List Int) (z : Int) : cntZ (l ++ [z]) = cntZ l + if z == 0 then 1 else 0 := by
  unfold cntZ
  rw [List.filter_append]
  by_cases h : z = 0 <;> simp [h]

theorem cntZ_hit (l : List Int) (k : Nat) (h : k < l.length) (hn : (l[k] == 0) = true) : cntZ (l.take (k + 1)) = cntZ (l.take k) + 1 := by
  rw [take_snoc l k h, cntZ_snoc]
  simp at hn
  simp [h, hn]

theorem cntZ_miss (l : List Int) (k : Nat) (h : k < l.length) (hn : (l[k] == 0) = false) : cntZ (l.take (k + 1)) = cntZ (l.take k) := by
  rw [take_snoc l k h, cntZ_snoc]
  simp at hn
  simp [h, hn]

theorem ret_bool {a b : Bool} (h : a = b) : Ending.returned (.bool a) = .returned (.bool b) := by rw [h]

/-- What is told of a slice of bytes that is read: its n elements are zs. -/
def Reads (w : World) (a : Option Addr) (n : Nat) (zs : List Int) : Prop :=
  zs.length = n ∧ n ≤ maxLen ∧ (n = 0 ∨ ∃ b off, a = some ⟨b, off, none⟩ ∧ ∀ i, i < n → w.cell? ⟨b, off + i, none⟩ = some (.int .u8 (zs.getD i 0)))

/-- WHAT THE WALK IS TOLD OF A SLICE OF INTEGERS THAT CAME IN: it is nil; or it leads to a row of 'cap' cells, the numbers 'zs' (the first 'len' are its elements, the rest its spare room), each fitting its kind. -/
def IsRow (k : IntKind) (w : World) (a : Option Addr) (len cap : Nat) (zs : List Int) : Prop :=
  (a = none ∧ len = 0 ∧ cap = 0 ∧ zs = []) ∨
  ∃ x, a = some x ∧ len ≤ cap ∧ cap ≤ maxLen ∧ zs.length = cap ∧ (∀ i, i < zs.length → w.cell? (x.add i) = some (.int k (zs.getD i 0))) ∧ ∀ n ∈ zs, (Lit.int k n).wf = true

theorem reads_of {w : World} {a : Option Addr} {len cap : Nat} {zs : List Int} (h : IsRow .u8 w a len cap zs) : Reads w a len (zs.take len) := by
  rcases h with ⟨rfl, rfl, rfl, rfl⟩ | ⟨x, rfl, hl, hm, hz, hc, _⟩
  · exact ⟨rfl, Nat.zero_le _, .inl rfl⟩
  · refine ⟨by simp; omega, by omega, ?_⟩
    by_cases h0 : len = 0
    · exact .inl h0
    · obtain ⟨b, off, spot⟩ := x
      have hspot : spot = none := by simpa [Addr.add] using World.cell?_spot (hc 0 (by omega))
      subst hspot
      refine .inr ⟨b, off, rfl, fun i hi => ?_⟩
      have := hc i (by omega)
      rw [add_plain] at this
      rw [this]
      simp [List.getD_eq_getElem?_getD, hi]

theorem zeros_any (a : Option Addr) (n cap : Nat) (zs : List Int) (w : World) (h : Reads w a n zs) :
    Calls Yba.prog 9 #[.slice a n cap] w fun e w' => e = .returned (.bool (allZ zs)) ∧ w' = w := by
  obtain ⟨hl, hm, hr⟩ := h
  unfold maxLen at hm
  rcases hr with hn | ⟨b, off, rfl, hc⟩
  · subst hn
    have hz : zs = [] := List.length_eq_zero_iff.1 hl
    subst hz
    go_enter Yba.func9, Yba.ntmps9
    go_wp2
    refine wp_loop_rounds 1 ?_
    rw [rounds_succ]
    go_wp2
    go_ret
    exact ⟨rfl, rfl⟩
  · go_enter Yba.func9, Yba.ntmps9
    go_wp2
    go_loop [7] (fun i => ∃ k : Nat, k ≤ n ∧ i = .int .i64 k ∧ allZ (zs.take k) = true) (fun i => n - (intOf i).toNat)
    case atStart => exact ⟨0, Nat.zero_le _, rfl, rfl⟩
    case round =>
      obtain ⟨k, hk, rfl, hz⟩ := hrel
      by_cases hlt : k < n
      · have hcell := hc k hlt
        have HZ : Hid (allZ (zs.take k) = true) := hz
        have hkz : k < zs.length := by omega
        clear hz
        go_wp2
        · have hn : (zs[k] != 0) = true := by assumption
          have hf := allZ_false zs k hkz hn
          go_ret
          exact ⟨ret_bool hf.symm, rfl⟩
        · have hn : (zs[k] != 0) = false := by assumption
          go_round
          case rel => exact ⟨k + 1, by omega, by go_num, allZ_step zs k hkz HZ.out hn⟩
          case measure => simp [intOf]; omega
      · have he : zs.take k = zs := List.take_of_length_le (by omega)
        rw [he] at hz
        have HZ : Hid (allZ zs = true) := hz
        clear hz he
        go_wp2
        go_ret
        exact ⟨ret_bool HZ.out.symm, rfl⟩

theorem model_any (a : Option Addr) (n cap : Nat) (zs : List Int) (w : World) (h : Reads w a n zs) :
    Calls Yba.prog 10 #[.slice a n cap] w fun e w' => e = .returned (.bool (allZ zs)) ∧ w' = w := by
  obtain ⟨hl, hm, hr⟩ := h
  unfold maxLen at hm
  rcases hr with hn | ⟨b, off, rfl, hc⟩
  · subst hn
    have hz : zs = [] := List.length_eq_zero_iff.1 hl
    subst hz
    go_enter Yba.func10, Yba.ntmps10
    go_wp2
    refine wp_loop_rounds 1 ?_
    rw [rounds_succ]
    go_wp2
    go_ret
    exact ⟨rfl, rfl⟩
  · go_enter Yba.func10, Yba.ntmps10
    go_wp2
    go_loop [3, 4] (fun c i => ∃ k : Nat, k ≤ n ∧ i = .int .i64 k ∧ c = .int .i64 (cntZ (zs.take k))) (fun _ i => n - (intOf i).toNat)
    case atStart => exact ⟨0, Nat.zero_le _, rfl, rfl⟩
    case round =>
      obtain ⟨k, hk, rfl, rfl⟩ := hrel
      have hle := cntZ_le (zs.take k)
      have hle2 : (zs.take k).length ≤ k := List.length_take_le _ _
      by_cases hlt : k < n
      · have hcell := hc k hlt
        have hkz : k < zs.length := by omega
        go_wp2
        · have hn : (zs[k] == 0) = true := by assumption
          go_round
          case rel => exact ⟨k + 1, by omega, by go_num, by rw [cntZ_hit zs k hkz hn]; go_num⟩
          case measure => simp [intOf]; omega
        · have hn : (zs[k] == 0) = false := by assumption
          go_round
          case rel => exact ⟨k + 1, by omega, by go_num, by rw [cntZ_miss zs k hkz hn]⟩
          case measure => simp [intOf]; omega
      · have he : zs.take k = zs := List.take_of_length_le (by omega)
        have HC : Hid (allZ zs = ((cntZ zs : Int) == (n : Int))) := by
          have := allZ_cnt zs
          rw [hl] at this
          exact this
        rw [he]
        clear he hle hle2
        go_wp2
        go_ret
        exact ⟨ret_bool HC.out.symm, rfl⟩

end Go.Proofs.Ybulkaqpo
