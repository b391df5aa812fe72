import Derived.Test.YbulkaqrsBuild
import Derived.WalkSmall
namespace Go.Proofs.Ybulkaqrs
open Go.ChangeShapes Go.WideShapes Go.ChangeAt Go.RowKit
set_option linter.unusedVariables false

theorem run_mkfunc (fn : Fn) (first cap : Array Value) (w : World) : (Instr.makeFunc fn first cap).run Yba.prog w = .ok (.func fn first cap) w := rfl

theorem notCritical_any (T N : ByteArray) (br : Int) (w : World) :
    Calls Yba.prog 7 #[.agg #[.string T, .string N], .int .u8 br] w fun e w' => e = .returned (.func (.func 9) #[] #[.pointer (some ⟨w.heap.size, 0, none⟩), .pointer (some ⟨w.heap.size + 1, 0, none⟩)]) ∧ (w.alloc (.cells #[.string T, .string N] 25)).alloc (.cells #[.int .u8 br] 30) = w' := by
  go_enter Yba.func7, Yba.ntmps7
  go_wp2
  go_ret
  exact ⟨rfl, rfl⟩

theorem present_any (T N : ByteArray) (w : World) :
    Calls Yba.prog 8 #[.agg #[.string T, .string N]] w fun e w' => e = .returned (.func (.func 11) #[] #[.pointer (some ⟨w.heap.size, 0, none⟩)]) ∧ w.alloc (.cells #[.string T, .string N] 25) = w' := by
  go_enter Yba.func8, Yba.ntmps8
  go_wp2
  go_ret
  exact ⟨rfl, rfl⟩

/-- The two texts. -/
abbrev absS (N : ByteArray) : ByteArray := (⟨#[116, 104, 101, 32]⟩ : ByteArray) ++ N ++ (⟨#[32, 101, 120, 116, 101, 110, 115, 105, 111, 110, 32, 105, 115, 32, 97, 98, 115, 101, 110, 116]⟩ : ByteArray)
abbrev criS (N : ByteArray) : ByteArray := (⟨#[116, 104, 101, 32]⟩ : ByteArray) ++ N ++ (⟨#[32, 101, 120, 116, 101, 110, 115, 105, 111, 110, 32, 105, 115, 32, 109, 97, 114, 107, 101, 100, 32, 99, 114, 105, 116, 105, 99, 97, 108]⟩ : ByteArray)

set_option maxHeartbeats 1000000 in
theorem crit_absent (b p q : Nat) (T N : ByteArray) (br : Int) (es : List (ByteArray × Bool)) (w : World) (h : CertAt w b es) (hp0 : w.cell? ⟨p, 0, none⟩ = some (.string T)) (hp1 : w.cell? ⟨p, 1, none⟩ = some (.string N)) (hq : w.cell? ⟨q, 0, none⟩ = some (.int .u8 br))
    (hN : N.size ≤ 140737488351232) (hpr : presB T es = false) :
    Calls Yba.prog 9 #[.pointer (some ⟨b, 0, none⟩), .pointer (some ⟨p, 0, none⟩), .pointer (some ⟨q, 0, none⟩)] w fun e w' => e = .returned (.tuple #[.int .u8 4, .string (absS N)]) ∧ Below w.heap.size w w' := by
  go_enter Yba.func9, Yba.ntmps9
  go_wp2_with (go_at_call 10; refine (marked_any _ _ _ _ _ h).mono ?_; rintro e w1 ⟨rfl, hbe⟩; have hp0' := (hbe.cell (World.block_lt_of_cell? w _ hp0)).trans hp0; have hp1' := (hbe.cell (World.block_lt_of_cell? w _ hp1)).trans hp1)
  go_region
  go_wp2
  go_ret2
  exact ⟨rfl, hbe.drew⟩

set_option maxHeartbeats 1000000 in
theorem crit_marked (b p q : Nat) (T N : ByteArray) (br : Int) (es : List (ByteArray × Bool)) (w : World) (h : CertAt w b es) (hp0 : w.cell? ⟨p, 0, none⟩ = some (.string T)) (hp1 : w.cell? ⟨p, 1, none⟩ = some (.string N)) (hq : w.cell? ⟨q, 0, none⟩ = some (.int .u8 br))
    (hN : N.size ≤ 140737488351232) (hpr : presB T es = true) (hcr : critB T es = true) :
    Calls Yba.prog 9 #[.pointer (some ⟨b, 0, none⟩), .pointer (some ⟨p, 0, none⟩), .pointer (some ⟨q, 0, none⟩)] w fun e w' => e = .returned (.tuple #[.int .u8 br, .string (criS N)]) ∧ Below w.heap.size w w' := by
  go_enter Yba.func9, Yba.ntmps9
  go_wp2_with (go_at_call 10; refine (marked_any _ _ _ _ _ h).mono ?_; rintro e w1 ⟨rfl, hbe⟩; have hp0' := (hbe.cell (World.block_lt_of_cell? w _ hp0)).trans hp0; have hp1' := (hbe.cell (World.block_lt_of_cell? w _ hp1)).trans hp1; have hq' := (hbe.cell (World.block_lt_of_cell? w _ hq)).trans hq)
  go_quiet (fail)
  go_wp2
  go_ret2
  exact ⟨rfl, below_drewN hbe _⟩

set_option maxHeartbeats 1000000 in
theorem crit_pass (b p q : Nat) (T N : ByteArray) (br : Int) (es : List (ByteArray × Bool)) (w : World) (h : CertAt w b es) (hp0 : w.cell? ⟨p, 0, none⟩ = some (.string T)) (hp1 : w.cell? ⟨p, 1, none⟩ = some (.string N)) (hq : w.cell? ⟨q, 0, none⟩ = some (.int .u8 br))
    (hN : N.size ≤ 140737488351232) (hpr : presB T es = true) (hcr : critB T es = false) :
    Calls Yba.prog 9 #[.pointer (some ⟨b, 0, none⟩), .pointer (some ⟨p, 0, none⟩), .pointer (some ⟨q, 0, none⟩)] w fun e w' => e = .returned (.tuple #[.int .u8 1, .string ⟨#[]⟩]) ∧ Below w.heap.size w w' := by
  go_enter Yba.func9, Yba.ntmps9
  go_wp2_with (go_at_call 10; refine (marked_any _ _ _ _ _ h).mono ?_; rintro e w1 ⟨rfl, hbe⟩)
  go_ret2
  exact ⟨rfl, hbe⟩

theorem absence_any (T N : ByteArray) (w : World) (hN : N.size ≤ 140737488351232) :
    Calls Yba.prog 12 #[.agg #[.string T, .string N]] w fun e w' => e = .returned (.string (absS N)) ∧ Below w.heap.size w w' := by
  go_enter Yba.func12, Yba.ntmps12
  go_wp2
  go_ret
  exact ⟨rfl, (Below.refl _ _).alloc (Nat.le_refl _) _⟩

set_option maxHeartbeats 1000000 in
theorem pres_absent (b p : Nat) (T N : ByteArray) (es : List (ByteArray × Bool)) (w : World) (h : CertAt w b es) (hp0 : w.cell? ⟨p, 0, none⟩ = some (.string T)) (hp1 : w.cell? ⟨p, 1, none⟩ = some (.string N))
    (hN : N.size ≤ 140737488351232) (hpr : presB T es = false) :
    Calls Yba.prog 11 #[.pointer (some ⟨b, 0, none⟩), .pointer (some ⟨p, 0, none⟩)] w fun e w' => e = .returned (.tuple #[.int .u8 2, .string (absS N)]) ∧ Below w.heap.size w w' := by
  go_enter Yba.func11, Yba.ntmps11
  go_wp2_with (first | (go_at_call 10; refine (marked_any _ _ _ _ _ h).mono ?_; rintro e w1 ⟨rfl, hbe⟩; have hp0' := (hbe.cell (World.block_lt_of_cell? w _ hp0)).trans hp0; have hp1' := (hbe.cell (World.block_lt_of_cell? w _ hp1)).trans hp1) | (go_at_call 12; refine (absence_any _ _ _ hN).mono ?_; rintro e w2 ⟨rfl, hbe2⟩))
  go_ret2
  exact ⟨rfl, hbe.trans (hbe2.mono hbe.size)⟩

set_option maxHeartbeats 1000000 in
theorem pres_pass (b p : Nat) (T N : ByteArray) (es : List (ByteArray × Bool)) (w : World) (h : CertAt w b es) (hp0 : w.cell? ⟨p, 0, none⟩ = some (.string T)) (hp1 : w.cell? ⟨p, 1, none⟩ = some (.string N)) (hpr : presB T es = true) :
    Calls Yba.prog 11 #[.pointer (some ⟨b, 0, none⟩), .pointer (some ⟨p, 0, none⟩)] w fun e w' => e = .returned (.tuple #[.int .u8 1, .string ⟨#[]⟩]) ∧ Below w.heap.size w w' := by
  go_enter Yba.func11, Yba.ntmps11
  go_wp2_with (first | (go_at_call 10; refine (marked_any _ _ _ _ _ h).mono ?_; rintro e w1 ⟨rfl, hbe⟩))
  go_ret2
  exact ⟨rfl, hbe⟩

end Go.Proofs.Ybulkaqrs
