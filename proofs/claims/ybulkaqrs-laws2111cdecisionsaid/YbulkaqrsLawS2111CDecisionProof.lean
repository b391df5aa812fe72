/-
  The proof of 'Rows.LawS2111CDecisionSaid'. The frame is after the guide's template (proof-skeleton.mjs; Derived/SizedLaws, Derived/Deep/SlicePairs); the walks are ours.
-/
import Derived.Test.YbulkaqrsRows
import Derived.Test.YbulkaqrsDecide
import Derived.SizedLaws
import Derived.Deep.SlicePairs
namespace Go.Proofs.Ybulkaqrs.lawS2111CDecision
open Go.ChangeShapes Go.WideShapes Go.ChangeAt Go.RowKit
open Go.ChangeMaps (open_string shut_string)
set_option linter.unusedVariables false

theorem own : ownKnob Yba.prog.godebug = none := by kernel_rfl
theorem laidOut : laidOutB Yba.prog = true := by kernel_rfl
theorem cells27 : Yba.prog.cellsOf 27 = 2 := by kernel_rfl
theorem cells5 : Yba.prog.cellsOf 5 = 1 := by kernel_rfl
theorem cells4 : Yba.prog.cellsOf 4 = 1 := by kernel_rfl

/-- The slice that came in, as the walks are told of it. -/
theorem exts_of {H : Type} {enc : TypeId × Value → H} {W : World} {fuel len cap : Nat} {a : Option Addr} {x : DataW H × List MemPlace} (h : DataW.trod enc Yba.prog W 0 (fun _ => true) true fuel 22 [.slice a len cap] = some x) :
    ∃ ps : List (Int × Bool), ps.length = len ∧ Exts W a ps := by
  rcases Go.Deep.open_slice_pairs Yba.underlying22 Yba.underlying27 cells27 rfl rfl cells5 cells4 h with ⟨hcs, _⟩ | ⟨ad, l, c, m, n, V0, V1, D0, D1, P0, P1, hcs, _, hl, hm, hmm, _, hx⟩
  · simp only [List.cons.injEq, Value.slice.injEq, and_true] at hcs
    obtain ⟨rfl, rfl, rfl⟩ := hcs
    exact ⟨[], rfl, fun i hi => by simp at hi, .inl rfl⟩
  · simp only [List.cons.injEq, Value.slice.injEq, and_true] at hcs
    obtain ⟨rfl, rfl, rfl⟩ := hcs
    simp only [if_true] at hmm
    subst hmm
    have each : ∀ i, i < len → ∃ q : Int × Bool, V0 i = .int .u8 q.1 ∧ V1 i = .bool q.2 ∧ (Lit.int .u8 q.1).wf = true := by
      intro i hi
      obtain ⟨_, _, h3, h4⟩ := hx i (by omega)
      obtain ⟨z, e1, _, wz⟩ := DataW.trod_int Yba.underlying5 h3
      obtain ⟨b, e2, _⟩ := DataW.trod_bool Yba.underlying4 h4
      simp only [List.cons.injEq, and_true] at e1 e2
      exact ⟨(z, b), e1, e2, wz⟩
    obtain ⟨q, hq⟩ := Go.Deep.choose_lt each
    have hget : ∀ i, i < len → ((List.range len).map q).getD i (0, false) = q i := fun i hi => by simp [List.getD, hi]
    refine ⟨(List.range len).map q, by simp, fun i hi => ?_, ?_⟩
    · have hi' : i < len := by simpa using hi
      rw [hget i hi']
      exact bounds_u8 (hq i hi').2.2
    · by_cases h0 : len = 0
      · exact .inl (by simp [h0])
      · right
        obtain ⟨b, off, spot⟩ := ad
        have hspot : spot = none := by simpa [Addr.add] using World.cell?_spot (hx 0 (by omega)).1
        subst hspot
        refine ⟨b, off, rfl, fun i hi => ?_⟩
        have hi' : i < len := by simpa using hi
        obtain ⟨h1, h2, _, _⟩ := hx i (by omega)
        obtain ⟨e1, e2, _⟩ := hq i hi'
        rw [add_plain] at h1 h2
        rw [hget i hi', ← e1, ← e2]
        exact ⟨h1, h2⟩

theorem walk (a0 : Option Addr) (len0 cap0 : Nat) (ps : List (Int × Bool)) (a1 : Int) (a2 : ByteArray) (a3 : Int) (w : World) (w0 : ps.length = len0 ∧ Exts w a0 ps) (w1 : (Lit.int .u8 a1).wf = true) (w2 : a2.size ≤ 140737488351232) (w3 : (Lit.int .u8 a3).wf = true) :
    Calls Yba.prog 3 #[.slice a0 len0 cap0, .int .u8 a1, .string a2, .int .u8 a3] w fun e w' => e = .returned (.bool true) ∧ Below w.heap.size w w' := by
  obtain ⟨rfl, hx⟩ := w0
  have b1 : 0 ≤ a1 ∧ a1 ≤ 255 := bounds_u8 w1
  have b3 : 0 ≤ a3 ∧ a3 ≤ 255 := bounds_u8 w3
  by_cases hn : ps.length ≤ 1024
  · exact decide_core a0 cap0 ps a1 a3 a2 w hx hn b1.1 b1.2 b3.1 b3.2 w2
  · exact decide_big a0 ps.length cap0 a1 a3 a2 w (by omega)

set_option maxRecDepth 100000 in
theorem lifted (os : Os) (started : os.Started) (H : Type) (enc : TypeId × Value → H) :
    ReturnsInHanded {} Yba.checked os 3 .any (Rows.lawS2111CDecisionSpec.pre6 enc Yba.prog Yba.f3 Rows.lawS2111CDecisionRow.domain false) (Rows.lawS2111CDecisionSpec.post enc Yba.prog Yba.f3 false true false false) := by
  refine returnsInHanded_of_change_sized (C := Yba.checked) own started (by kernel_rfl) Yba.func3
    (ChangeSpec.witness6 (enc := enc) (C := Yba.checked) false ⟨#[], #[.slice none 0 0, .int .u8 0, .string ByteArray.empty, .int .u8 0], []⟩ 8 (by kernel_rfl) (by kernel_rfl) (by kernel_rfl) (by kernel_rfl)) ?_
  intro W base args ds gs before hval0 hW hcnd hsz0 _
  have hval : ∀ (j : Nat) t v, Yba.f3.params[j]? = some t → args[j]? = some v → Value.okWide Yba.prog W .any base t v := hval0
  have hsz : (DataW.weightsEach Yba.prog (Yba.f3.params.toList ++ Rows.lawS2111CDecisionSpec.plain.varTypes Yba.prog) (ds ++ gs)).all (· ≤ reachBytes) = true := hsz0
  have hW' := hW
  obtain ⟨p, q, hA0, hV, rfl, hfz, hnd⟩ := hW
  have hA : DataW.TrodAll enc Yba.prog W 0 (fun _ => true) true Yba.f3.params.toList args.toList ds p := hA0
  rw [Yba.params3] at hA hval hsz
  obtain ⟨v0, vs0, d0, ds0, p0, q0, hargs, rfl, rfl, h0, r0⟩ := trodAll_cons hA
  obtain ⟨v1, vs1, d1, ds1, p1, q1, rfl, rfl, rfl, h1, r1⟩ := trodAll_cons r0
  obtain ⟨v2, vs2, d2, ds2, p2, q2, rfl, rfl, rfl, h2, r2⟩ := trodAll_cons r1
  obtain ⟨v3, vs3, d3, ds3, p3, q3, rfl, rfl, rfl, h3, r3⟩ := trodAll_cons r2
  obtain ⟨rfl, rfl, rfl⟩ := trodAll_nil r3
  obtain rfl : args = #[v0, v1, v2, v3] := by cases args; simp_all
  obtain ⟨rfl, rfl⟩ := trodVars_none hV
  obtain ⟨a0, len0, cap0, rfl⟩ := okWide_slice Yba.underlying22 (hval 0 22 v0 rfl rfl)
  have k0 := h0
  have lt0 : ∀ x ∈ p0, x.block < W.heap.size := by obtain ⟨m, hm⟩ := k0; exact DataW.trod_lt m _ _ _ hm
  obtain ⟨ps, w0⟩ : ∃ ps : List (Int × Bool), ps.length = len0 ∧ Exts W a0 ps := by
    obtain ⟨fuel, hf⟩ := h0
    exact exts_of hf
  obtain ⟨a1, rfl, rfl, rfl, w1⟩ := open_int Yba.underlying5 (hval 1 5 v1 rfl rfl) h1
  obtain ⟨a2, rfl, rfl, rfl, w2⟩ := open_string Yba.underlying9 (hval 2 9 v2 rfl rfl) h2
  obtain ⟨a3, rfl, rfl, rfl, w3⟩ := open_int Yba.underlying5 (hval 3 5 v3 rfl rfl) h3
  have z2 : a2.size ≤ 140737488351232 := by
    have := sized_string hsz (j := 2) (t := 9) rfl rfl
    simpa [reachBytes] using this
  clear hA0 hval0
  refine (walk a0 len0 cap0 ps a1 a2 a3 W w0 w1 z2 w3).mono fun e W' ⟨he, bel⟩ => ?_
  subst he
  exact ⟨_, rfl, _, _, _, [], _, [], hW', trodAll_mk1 (shut_bool Yba.underlying4 _), (trodAll_cons_mk (Below.trod laidOut (by kernel_rfl) (of_decide_eq_true (by kernel_rfl)) k0 bel lt0) (trodAll_cons_mk (shut_int Yba.underlying5 w1) (trodAll_cons_mk (shut_string Yba.underlying9 w2) (trodAll_cons_mk (shut_int Yba.underlying5 w3) trodAll_mk0)))), rfl, bel.frame _, fun h => by cases h⟩

theorem over : Rows.lawS2111CDecisionRow.holds Yba.pinned (OpenSpec.ofChange Rows.lawS2111CDecisionSpec) :=
  OpenClaim.holds_of_wide 3 Yba.f3 rfl rfl rfl rfl rfl rfl rfl ⟨rfl, rfl, rfl, rfl, rfl⟩ rfl rfl rfl rfl rfl (by kernel_rfl) Yba.func3 (by kernel_rfl)
    (of_decide_eq_true (by kernel_rfl)) (by unfold Func.isWrapper; first | (rw [if_pos (by decide +kernel)]; kernel_rfl) | (rw [if_neg (by decide +kernel)]; exact ⟨rfl, rfl⟩))
    (fun os started H enc _ => lifted os started H enc)

/-- THE STATEMENT -/
theorem proved : Rows.LawS2111CDecisionSaid := over
end Go.Proofs.Ybulkaqrs.lawS2111CDecision
