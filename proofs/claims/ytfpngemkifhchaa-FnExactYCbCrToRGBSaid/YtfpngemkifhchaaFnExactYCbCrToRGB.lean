/- Proved: red, green and blue differ from the values of the formulas of JFIF, kept within 0 and 255, by at most 1 and a hundredth (laws.FnExactYCbCrToRGB returns true). No condition: for every input. -/
import Derived.Test.YtfpngemkifhchaaDraw
import Derived.Test.YtfpngemkifhchaaSpec
import Derived.Test.YtfpngemkifhchaaNum
import Derived.WalkKit
import Derived.ProofKit
import Derived.OpenShut
import Derived.ShutString
import Derived.ChangeOld
import Derived.Below
namespace Go.Proofs.Ytfpngemkifhchaa.fnExactYCbCrToRGB
open Go.ChangeShapes Go.WideShapes Go.ChangeAt Go.RowKit
open Go.ChangeMaps (open_string shut_string)
set_option linter.unusedVariables false

theorem own : ownKnob Try.prog.godebug = none := by kernel_rfl
theorem laidOut : laidOutB Try.prog = true := by kernel_rfl

set_option maxHeartbeats 2000000 in
theorem walk (a0 : Int) (a1 : Int) (a2 : Int) (w : World) (w0 : (Lit.int .u8 a0).wf = true) (w1 : (Lit.int .u8 a1).wf = true) (w2 : (Lit.int .u8 a2).wf = true) :
    Calls Try.prog 9 #[.int .u8 a0, .int .u8 a1, .int .u8 a2] w fun e w' => e = .returned (.bool true) ∧ Below w.heap.size w w' := by
  obtain ⟨k0, k0'⟩ := wf8 w0
  obtain ⟨k1, k1'⟩ := wf8 w1
  obtain ⟨k2, k2'⟩ := wf8 w2
  obtain ⟨g1, g1'⟩ : 0 ≤ Col.redOf a0 a2 ∧ Col.redOf a0 a2 ≤ 255 := Col.clip8_bd _
  obtain ⟨g2, g2'⟩ : 0 ≤ Col.greenOf a0 a1 a2 ∧ Col.greenOf a0 a1 a2 ≤ 255 := Col.clip8_bd _
  obtain ⟨g3, g3'⟩ : 0 ≤ Col.blueOf a0 a1 ∧ Col.blueOf a0 a1 ≤ 255 := Col.clip8_bd _
  obtain ⟨l1, l1'⟩ := Col.clamp_bd (100000 * a0 + 140200 * (a2 - 128))
  obtain ⟨l2, l2'⟩ := Col.clamp_bd (100000 * a0 - 34414 * (a1 - 128) - 71414 * (a2 - 128))
  obtain ⟨l3, l3'⟩ := Col.clamp_bd (100000 * a0 + 177200 * (a1 - 128))
  have f1 := Col.red_exact a0 a2 k0 k0' k2 k2'
  have f2 := Col.green_exact a0 a1 a2 k0 k0' k1 k1' k2 k2'
  have f3 := Col.blue_exact a0 a1 k0 k0' k1 k1'
  go_enter Try.func9, Try.ntmps9
  go_wp2_with fail
  refine (toRGB_any w a0 a1 a2 k0 k0' k1 k1' k2 k2').mono ?_
  rintro e wx ⟨rfl, rfl⟩
  go_wp2_with fail
  refine (rgbOf_any _ a0 a1 a2 k0 k0' k1 k1' k2 k2').mono ?_
  rintro e wx ⟨rfl, rfl⟩
  go_wp2_with fail
  refine (off_any _ _ _ g1 (by omega) l1 (by omega)).mono ?_
  rintro e wx ⟨rfl, rfl⟩
  go_wp2_with fail
  refine (off_any _ _ _ g2 (by omega) l2 (by omega)).mono ?_
  rintro e wx ⟨rfl, rfl⟩
  go_wp2_with fail
  refine (off_any _ _ _ g3 (by omega) l3 (by omega)).mono ?_
  rintro e wx ⟨rfl, rfl⟩
  go_wp2
  go_ret
  exact ⟨rfl, Below.refl _ _⟩

set_option maxRecDepth 100000 in
theorem lifted (os : Os) (started : os.Started) (H : Type) (enc : TypeId × Value → H) :
    ReturnsInHanded {} Try.checked os 9 .any (Rows.fnExactYCbCrToRGBSpec.pre6 enc Try.prog Try.f9 Rows.fnExactYCbCrToRGBRow.domain false) (Rows.fnExactYCbCrToRGBSpec.post enc Try.prog Try.f9 false true false false) := by
  refine returnsInHanded_of_change (C := Try.checked) own started (by kernel_rfl) Try.func9
    (ChangeSpec.witness6 (enc := enc) (C := Try.checked) false ⟨#[], #[.int .u8 0, .int .u8 0, .int .u8 0], []⟩ 8 (by kernel_rfl) (by kernel_rfl) (by kernel_rfl) (by kernel_rfl)) ?_
  intro W base args ds gs before hval0 hW hcnd _
  have hval : ∀ (j : Nat) t v, Try.f9.params[j]? = some t → args[j]? = some v → Value.okWide Try.prog W .any base t v := hval0
  have hW' := hW
  obtain ⟨p, q, hA0, hV, rfl, hfz, hnd⟩ := hW
  have hA : DataW.TrodAll enc Try.prog W 0 (fun _ => true) true Try.f9.params.toList args.toList ds p := hA0
  rw [Try.params9] at hA hval
  obtain ⟨v0, vs0, d0, ds0, p0, q0, hargs, rfl, rfl, h0, r0⟩ := trodAll_cons hA
  obtain ⟨v1, vs1, d1, ds1, p1, q1, rfl, rfl, rfl, h1, r1⟩ := trodAll_cons r0
  obtain ⟨v2, vs2, d2, ds2, p2, q2, rfl, rfl, rfl, h2, r2⟩ := trodAll_cons r1
  obtain ⟨rfl, rfl, rfl⟩ := trodAll_nil r2
  obtain rfl : args = #[v0, v1, v2] := by cases args; simp_all
  obtain ⟨rfl, rfl⟩ := trodVars_none hV
  obtain ⟨a0, rfl, rfl, rfl, w0⟩ := open_int Try.underlying5 (hval 0 5 v0 rfl rfl) h0
  obtain ⟨a1, rfl, rfl, rfl, w1⟩ := open_int Try.underlying5 (hval 1 5 v1 rfl rfl) h1
  obtain ⟨a2, rfl, rfl, rfl, w2⟩ := open_int Try.underlying5 (hval 2 5 v2 rfl rfl) h2
  clear hA0 hval0
  refine (walk a0 a1 a2 W w0 w1 w2).mono fun e W' ⟨he, bel⟩ => ?_
  subst he
  exact ⟨_, rfl, _, _, _, [], [], [], hW', trodAll_mk1 (shut_bool Try.underlying4 _), (trodAll_cons_mk (shut_int Try.underlying5 w0) (trodAll_cons_mk (shut_int Try.underlying5 w1) (trodAll_cons_mk (shut_int Try.underlying5 w2) trodAll_mk0))), rfl, bel.frame _, fun h => by cases h⟩

theorem over : Rows.fnExactYCbCrToRGBRow.holds Try.pinned (OpenSpec.ofChange Rows.fnExactYCbCrToRGBSpec) :=
  OpenClaim.holds_of_wide 9 Try.f9 rfl rfl rfl rfl rfl rfl rfl ⟨rfl, rfl, rfl, rfl, rfl⟩ rfl rfl rfl rfl rfl (by kernel_rfl) Try.func9 (by kernel_rfl)
    (of_decide_eq_true (by kernel_rfl)) (by unfold Func.isWrapper; first | (rw [if_pos (by decide +kernel)]; kernel_rfl) | (rw [if_neg (by decide +kernel)]; exact ⟨rfl, rfl⟩))
    (fun os started H enc _ => lifted os started H enc)

theorem proved : Rows.FnExactYCbCrToRGBSaid := over
#print axioms proved
end Go.Proofs.Ytfpngemkifhchaa.fnExactYCbCrToRGB
