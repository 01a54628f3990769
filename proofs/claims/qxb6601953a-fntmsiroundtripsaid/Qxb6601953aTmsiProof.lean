/-
  'Rows.FnTMSIRoundTripSaid', proved: the frame as the guide's shell has it for slices (proof-skeleton.mjs), the array argument opened as in IdRangearrayProofs.
-/
import Derived.Test.Qxb6601953aTmsi
import Derived.ProofKit
import Derived.OpenShut
import Derived.ChangeOld
import Derived.Below
import Derived.Laws.IdiomArrays
namespace Go.Proofs.Qxb6601953a.fnTMSIRoundTrip
open Go.ChangeShapes Go.WideShapes Go.ChangeAt Go.RowKit
set_option linter.unusedVariables false

theorem own : ownKnob Try.prog.godebug = none := by kernel_rfl
theorem laidOut : laidOutB Try.prog = true := by kernel_rfl
theorem cells22 : Try.prog.cellsOf 22 = 4 := by kernel_rfl
theorem cells5 : Try.prog.cellsOf 5 = 1 := by kernel_rfl
theorem list4 {α : Type} (l : List α) (h : (⟨l⟩ : Array α).size = 4) : ∃ a b c d, l = [a, b, c, d] := by
  match l, h with
  | [a, b, c, d], _ => exact ⟨a, b, c, d, rfl⟩

theorem walk (t0 t1 t2 t3 h : Int) (w : World) (wh : (Lit.int .u8 h).wf = true) :
    Calls Try.prog 3 #[.agg #[.int .u8 t0, .int .u8 t1, .int .u8 t2, .int .u8 t3], .int .u8 h] w fun e w' => e = .returned (.bool true) ∧ Below w.heap.size w w' := by
  obtain ⟨h0, h1⟩ := bounds_u8 wh
  by_cases hm : h % 8 = 4
  · exact trip_yes t0 t1 t2 t3 h w h0 h1 hm
  · exact trip_no t0 t1 t2 t3 h w h0 h1 (by simpa using hm)

set_option maxHeartbeats 400000 in
/-! ### THE ROW's STEP: WRITTEN OUT: LEAVE IT -/
set_option maxRecDepth 100000 in
theorem lifted (os : Os) (started : os.Started) (H : Type) (enc : TypeId × Value → H) :
    ReturnsInHanded {} Try.checked os 3 .any (Rows.fnTMSIRoundTripSpec.pre6 enc Try.prog Try.f3 Rows.fnTMSIRoundTripRow.domain false) (Rows.fnTMSIRoundTripSpec.post enc Try.prog Try.f3 false true false false) := by
  refine returnsInHanded_of_change (C := Try.checked) own started (by kernel_rfl) Try.func3
    (ChangeSpec.witness6 (enc := enc) (C := Try.checked) false ⟨#[], #[.agg #[.int .u8 0, .int .u8 0, .int .u8 0, .int .u8 0], .int .u8 0], []⟩ 8 (by kernel_rfl) (by kernel_rfl) (by kernel_rfl) (by kernel_rfl)) ?_
  intro W base args ds gs before hval0 hW hcnd _
  have hval : ∀ (j : Nat) t v, Try.f3.params[j]? = some t → args[j]? = some v → Value.okWide Try.prog W .any base t v := hval0
  have hW' := hW
  obtain ⟨p, q, hA0, hV, rfl, hfz, hnd⟩ := hW
  have hA : DataW.TrodAll enc Try.prog W 0 (fun _ => true) true Try.f3.params.toList args.toList ds p := hA0
  rw [Try.params3] at hA hval
  obtain ⟨v0, vs0, d0, ds0, p0, q0, hargs, rfl, rfl, h0, r0⟩ := trodAll_cons hA
  obtain ⟨v1, vs1, d1, ds1, p1, q1, rfl, rfl, rfl, h1, r1⟩ := trodAll_cons r0
  obtain ⟨rfl, rfl, rfl⟩ := trodAll_nil r1
  obtain rfl : args = #[v0, v1] := by cases args; simp_all
  obtain ⟨rfl, rfl⟩ := trodVars_none hV
  obtain ⟨cs, rfl, hsz, _⟩ : ∃ cs, v0 = .agg cs ∧ cs.size = Try.prog.cellsOf 22 ∧ Row.okWide Try.prog W .any base 22 cs := by
    have := hval 0 22 v0 rfl rfl
    simpa [Value.okWide, Try.underlying22] using this
  rw [cells22] at hsz
  obtain ⟨l⟩ := cs
  obtain ⟨c0, c1, c2, c3, rfl⟩ := list4 l hsz
  have k0 := h0
  have lt0 : ∀ x ∈ p0, x.block < W.heap.size := by obtain ⟨m, hm⟩ := k0; exact DataW.trod_lt m _ _ _ hm
  obtain ⟨fuel, hf⟩ := h0
  obtain ⟨y0, y1, y2, y3, m, hx, hy0, hy1, hy2, hy3⟩ := trod_array4 Try.underlying22 cells5 hf
  obtain ⟨x0, e0, rfl, w0⟩ := DataW.trod_int Try.underlying5 hy0
  obtain ⟨x1, e1, rfl, w1⟩ := DataW.trod_int Try.underlying5 hy1
  obtain ⟨x2, e2, rfl, w2⟩ := DataW.trod_int Try.underlying5 hy2
  obtain ⟨x3, e3, rfl, w3⟩ := DataW.trod_int Try.underlying5 hy3
  simp at e0 e1 e2 e3
  subst e0 e1 e2 e3
  obtain ⟨a1, rfl, rfl, rfl, w1⟩ := open_int Try.underlying5 (hval 1 5 v1 rfl rfl) h1
  clear hA0 hval0
  refine (walk x0 x1 x2 x3 a1 W w1).mono fun e W' ⟨he, bel⟩ => ?_
  subst he
  exact ⟨_, rfl, _, _, _, [], _, [], hW', trodAll_mk1 (shut_bool Try.underlying4 _), (trodAll_cons_mk (Below.trod laidOut (by kernel_rfl) (of_decide_eq_true (by kernel_rfl)) k0 bel lt0) (trodAll_cons_mk (shut_int Try.underlying5 w1) trodAll_mk0)), rfl, bel.frame _, fun h => by cases h⟩

theorem over : Rows.fnTMSIRoundTripRow.holds Try.pinned (OpenSpec.ofChange Rows.fnTMSIRoundTripSpec) :=
  OpenClaim.holds_of_wide 3 Try.f3 rfl rfl rfl rfl rfl rfl rfl ⟨rfl, rfl, rfl, rfl, rfl⟩ rfl rfl rfl rfl rfl (by kernel_rfl) Try.func3 (by kernel_rfl)
    (of_decide_eq_true (by kernel_rfl)) (by unfold Func.isWrapper; first | (rw [if_pos (by decide +kernel)]; kernel_rfl) | (rw [if_neg (by decide +kernel)]; exact ⟨rfl, rfl⟩))
    (fun os started H enc _ => lifted os started H enc)

/-- ████ THE STATEMENT ████ -/
theorem proved : Rows.FnTMSIRoundTripSaid := over
end Go.Proofs.Qxb6601953a.fnTMSIRoundTrip
