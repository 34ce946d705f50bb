/- Proved: luma and both chroma values are those of the formulas of JFIF, rounded to the nearest whole number where this is not within a hundredth of a half, and else one of both (laws.FnExactRGBToYCbCr returns true). No condition: for every input. -/
import Derived.Test.YtcpjngfiefkodaaDraw
import Derived.Test.YtcpjngfiefkodaaSpec
import Derived.Test.YtcpjngfiefkodaaNum
import Derived.WalkKit
import Derived.ProofKit
import Derived.OpenShut
import Derived.ShutString
import Derived.ChangeOld
import Derived.Below
namespace Go.Proofs.Ytcpjngfiefkodaa.fnExactRGBToYCbCr
open Go.ChangeShapes Go.WideShapes Go.ChangeAt Go.RowKit
open Go.ChangeMaps (open_string shut_string)
set_option linter.unusedVariables false

theorem own : ownKnob Try.prog.godebug = none := by kernel_rfl
theorem laidOut : laidOutB Try.prog = true := by kernel_rfl

set_option maxHeartbeats 2000000 in
theorem walk (a0 : Int) (a1 : Int) (a2 : Int) (w : World) (w0 : (Lit.int .u8 a0).wf = true) (w1 : (Lit.int .u8 a1).wf = true) (w2 : (Lit.int .u8 a2).wf = true) :
    Calls Try.prog 10 #[.int .u8 a0, .int .u8 a1, .int .u8 a2] w fun e w' => e = .returned (.bool true) ∧ Below w.heap.size w w' := by
  obtain ⟨k0, k0'⟩ := wf8 w0
  obtain ⟨k1, k1'⟩ := wf8 w1
  obtain ⟨k2, k2'⟩ := wf8 w2
  have F1 := Lib.hid (Col.luma_close a0 a1 a2 k0 k0' k1 k1' k2 k2')
  have F2 := Lib.hid (Col.cb_close a0 a1 a2 k0 k0' k1 k1' k2 k2')
  have F3 := Lib.hid (Col.cr_close a0 a1 a2 k0 k0' k1 k1' k2 k2')
  obtain ⟨g1, g1'⟩ := Col.luma_bd a0 a1 a2 k0 k0' k1 k1' k2 k2'
  obtain ⟨g2, g2'⟩ : 0 ≤ Col.cbOf a0 a1 a2 ∧ Col.cbOf a0 a1 a2 ≤ 255 := Col.clip8_bd _
  obtain ⟨g3, g3'⟩ : 0 ≤ Col.crOf a0 a1 a2 ∧ Col.crOf a0 a1 a2 ≤ 255 := Col.clip8_bd _
  obtain ⟨g4, g4'⟩ := Col.clamp_bd (-16870 * a0 - 33130 * a1 + 50000 * a2 + 12800000)
  obtain ⟨g5, g5'⟩ := Col.clamp_bd (50000 * a0 - 41870 * a1 - 8130 * a2 + 12800000)
  go_enter Try.func10, Try.ntmps10
  go_wp2_with fail
  refine (toYCbCr_any w a0 a1 a2 k0 k0' k1 k1' k2 k2').mono ?_
  rintro e wx ⟨rfl, rfl⟩
  go_wp2_with fail
  refine (chromaOf_any _ a0 a1 a2 k0 k0' k1 k1' k2 k2').mono ?_
  rintro e wx ⟨rfl, rfl⟩
  go_wp2_with fail
  refine (lumaOf_any _ a0 a1 a2 k0 k0' k1 k1' k2 k2').mono ?_
  rintro e wx ⟨rfl, rfl⟩
  go_wp2_with fail
  refine (closeTo_any _ _ _ g1 g1' (by omega) (by omega) F1.out.1 F1.out.2).mono ?_
  rintro e wx ⟨rfl, rfl⟩
  go_wp2_with fail
  refine (closeTo_any _ _ _ g2 g2' g4 g4' F2.out.1 F2.out.2).mono ?_
  rintro e wx ⟨rfl, rfl⟩
  go_wp2_with fail
  refine (closeTo_any _ _ _ g3 g3' g5 g5' F3.out.1 F3.out.2).mono ?_
  rintro e wx ⟨rfl, rfl⟩
  go_wp2
  go_ret
  exact ⟨rfl, Below.refl _ _⟩

set_option maxRecDepth 100000 in
theorem lifted (os : Os) (started : os.Started) (H : Type) (enc : TypeId × Value → H) :
    ReturnsInHanded {} Try.checked os 10 .any (Rows.fnExactRGBToYCbCrSpec.pre6 enc Try.prog Try.f10 Rows.fnExactRGBToYCbCrRow.domain false) (Rows.fnExactRGBToYCbCrSpec.post enc Try.prog Try.f10 false true false false) := by
  refine returnsInHanded_of_change (C := Try.checked) own started (by kernel_rfl) Try.func10
    (ChangeSpec.witness6 (enc := enc) (C := Try.checked) false ⟨#[], #[.int .u8 0, .int .u8 0, .int .u8 0], []⟩ 8 (by kernel_rfl) (by kernel_rfl) (by kernel_rfl) (by kernel_rfl)) ?_
  intro W base args ds gs before hval0 hW hcnd _
  have hval : ∀ (j : Nat) t v, Try.f10.params[j]? = some t → args[j]? = some v → Value.okWide Try.prog W .any base t v := hval0
  have hW' := hW
  obtain ⟨p, q, hA0, hV, rfl, hfz, hnd⟩ := hW
  have hA : DataW.TrodAll enc Try.prog W 0 (fun _ => true) true Try.f10.params.toList args.toList ds p := hA0
  rw [Try.params10] at hA hval
  obtain ⟨v0, vs0, d0, ds0, p0, q0, hargs, rfl, rfl, h0, r0⟩ := trodAll_cons hA
  obtain ⟨v1, vs1, d1, ds1, p1, q1, rfl, rfl, rfl, h1, r1⟩ := trodAll_cons r0
  obtain ⟨v2, vs2, d2, ds2, p2, q2, rfl, rfl, rfl, h2, r2⟩ := trodAll_cons r1
  obtain ⟨rfl, rfl, rfl⟩ := trodAll_nil r2
  obtain rfl : args = #[v0, v1, v2] := by cases args; simp_all
  obtain ⟨rfl, rfl⟩ := trodVars_none hV
  obtain ⟨a0, rfl, rfl, rfl, w0⟩ := open_int Try.underlying5 (hval 0 5 v0 rfl rfl) h0
  obtain ⟨a1, rfl, rfl, rfl, w1⟩ := open_int Try.underlying5 (hval 1 5 v1 rfl rfl) h1
  obtain ⟨a2, rfl, rfl, rfl, w2⟩ := open_int Try.underlying5 (hval 2 5 v2 rfl rfl) h2
  clear hA0 hval0
  refine (walk a0 a1 a2 W w0 w1 w2).mono fun e W' ⟨he, bel⟩ => ?_
  subst he
  exact ⟨_, rfl, _, _, _, [], [], [], hW', trodAll_mk1 (shut_bool Try.underlying4 _), (trodAll_cons_mk (shut_int Try.underlying5 w0) (trodAll_cons_mk (shut_int Try.underlying5 w1) (trodAll_cons_mk (shut_int Try.underlying5 w2) trodAll_mk0))), rfl, bel.frame _, fun h => by cases h⟩

theorem over : Rows.fnExactRGBToYCbCrRow.holds Try.pinned (OpenSpec.ofChange Rows.fnExactRGBToYCbCrSpec) :=
  OpenClaim.holds_of_wide 10 Try.f10 rfl rfl rfl rfl rfl rfl rfl ⟨rfl, rfl, rfl, rfl, rfl⟩ rfl rfl rfl rfl rfl (by kernel_rfl) Try.func10 (by kernel_rfl)
    (of_decide_eq_true (by kernel_rfl)) (by unfold Func.isWrapper; first | (rw [if_pos (by decide +kernel)]; kernel_rfl) | (rw [if_neg (by decide +kernel)]; exact ⟨rfl, rfl⟩))
    (fun os started H enc _ => lifted os started H enc)

theorem proved : Rows.FnExactRGBToYCbCrSaid := over
#print axioms proved
end Go.Proofs.Ytcpjngfiefkodaa.fnExactRGBToYCbCr
