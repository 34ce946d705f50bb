/- Proved: from red, green and blue to inks and back each value stays, or is 1 more (laws.FnInkAndBack returns true). No condition: for every input. -/
import Derived.Test.YtcpjngfiefkodaaDraw
import Derived.Test.YtcpjngfiefkodaaSpec
import Derived.Test.YtcpjngfiefkodaaNum
import Derived.WalkKit
import Derived.ProofKit
import Derived.OpenShut
import Derived.ShutString
import Derived.ChangeOld
import Derived.Below
namespace Go.Proofs.Ytcpjngfiefkodaa.fnInkAndBack
open Go.ChangeShapes Go.WideShapes Go.ChangeAt Go.RowKit
open Go.ChangeMaps (open_string shut_string)
set_option linter.unusedVariables false

theorem own : ownKnob Try.prog.godebug = none := by kernel_rfl
theorem laidOut : laidOutB Try.prog = true := by kernel_rfl

set_option maxHeartbeats 2000000 in
theorem walk (a0 : Option Addr) (len0 cap0 : Nat) (z0 : List Int) (w : World) (w0 : IsRow .u8 w a0 len0 cap0 z0) :
    Calls Try.prog 7 #[.slice a0 len0 cap0] w fun e w' => e = .returned (.bool true) ∧ Below w.heap.size w w' := by
  go_enter Try.func7, Try.ntmps7
  go_wp2_with fail
  refine (draw3 w a0 len0 cap0 z0 w0).mono ?_
  rintro e w1 ⟨a, b, c, ha, ha', hb, hb', hc, hc', rfl, bel⟩
  have B1 := Lib.hid bel
  clear bel w0
  obtain ⟨m1, m2, m3, m4⟩ := Col.most_bd a b c
  have m5 : 0 ≤ Col.most a b c ∧ Col.most a b c ≤ 255 := by omega
  clear m4
  obtain ⟨m5, m6⟩ := m5
  obtain ⟨p0, p1⟩ := Col.cyanOf_bd a (Col.most a b c) ha m1
  obtain ⟨q0, q1⟩ := Col.cyanOf_bd b (Col.most a b c) hb m2
  obtain ⟨s0, s1⟩ := Col.cyanOf_bd c (Col.most a b c) hc m3
  have Fa := Lib.hid (Col.ink_back a (Col.most a b c) ha m1 m6)
  obtain ⟨ia, ja⟩ := Col.inkOf_bd (Col.cyanOf a (Col.most a b c)) (255 - Col.most a b c) p0 p1 (by omega) (by omega)
  have Fb := Lib.hid (Col.ink_back b (Col.most a b c) hb m2 m6)
  obtain ⟨ib, jb⟩ := Col.inkOf_bd (Col.cyanOf b (Col.most a b c)) (255 - Col.most a b c) q0 q1 (by omega) (by omega)
  have Fc := Lib.hid (Col.ink_back c (Col.most a b c) hc m3 m6)
  obtain ⟨ic, jc⟩ := Col.inkOf_bd (Col.cyanOf c (Col.most a b c)) (255 - Col.most a b c) s0 s1 (by omega) (by omega)
  go_wp2_with fail
  refine (toCMYK_any _ a b c ha ha' hb hb' hc hc').mono ?_
  rintro e wx ⟨rfl, rfl⟩
  go_wp2_with fail
  refine (cmykToRGB_any _ _ _ _ _ p0 p1 q0 q1 s0 s1 (by omega) (by omega)).mono ?_
  rintro e wx ⟨rfl, rfl⟩
  go_wp2_with fail
  refine (stays_any _ _ a ia ja ha ha' Fa.out).mono ?_
  rintro e wx ⟨rfl, rfl⟩
  go_wp2_with fail
  refine (stays_any _ _ b ib jb hb hb' Fb.out).mono ?_
  rintro e wx ⟨rfl, rfl⟩
  go_wp2_with fail
  refine (stays_any _ _ c ic jc hc hc' Fc.out).mono ?_
  rintro e wx ⟨rfl, rfl⟩
  go_wp2
  go_ret
  exact ⟨rfl, B1.out⟩

set_option maxRecDepth 100000 in
theorem lifted (os : Os) (started : os.Started) (H : Type) (enc : TypeId × Value → H) :
    ReturnsInHanded {} Try.checked os 7 .any (Rows.fnInkAndBackSpec.pre6 enc Try.prog Try.f7 Rows.fnInkAndBackRow.domain false) (Rows.fnInkAndBackSpec.post enc Try.prog Try.f7 false true false false) := by
  refine returnsInHanded_of_change (C := Try.checked) own started (by kernel_rfl) Try.func7
    (ChangeSpec.witness6 (enc := enc) (C := Try.checked) false ⟨#[], #[.slice none 0 0], []⟩ 8 (by kernel_rfl) (by kernel_rfl) (by kernel_rfl) (by kernel_rfl)) ?_
  intro W base args ds gs before hval0 hW hcnd _
  have hval : ∀ (j : Nat) t v, Try.f7.params[j]? = some t → args[j]? = some v → Value.okWide Try.prog W .any base t v := hval0
  have hW' := hW
  obtain ⟨p, q, hA0, hV, rfl, hfz, hnd⟩ := hW
  have hA : DataW.TrodAll enc Try.prog W 0 (fun _ => true) true Try.f7.params.toList args.toList ds p := hA0
  rw [Try.params7] at hA hval
  obtain ⟨v0, vs0, d0, ds0, p0, q0, hargs, rfl, rfl, h0, r0⟩ := trodAll_cons hA
  obtain ⟨rfl, rfl, rfl⟩ := trodAll_nil r0
  obtain rfl : args = #[v0] := by cases args; simp_all
  obtain ⟨rfl, rfl⟩ := trodVars_none hV
  obtain ⟨a0, len0, cap0, rfl⟩ := okWide_slice Try.underlying22 (hval 0 22 v0 rfl rfl)
  have k0 := h0
  have lt0 : ∀ x ∈ p0, x.block < W.heap.size := by obtain ⟨m, hm⟩ := k0; exact DataW.trod_lt m _ _ _ hm
  obtain ⟨z0, w0⟩ : ∃ zs, IsRow .u8 W a0 len0 cap0 zs := by
    obtain ⟨fuel, hf⟩ := h0
    rcases open_ints Try.underlying22 Try.underlying5 (by kernel_rfl) hf with ⟨hcs, _⟩ | ⟨x, l, c, zs, hcs, _, hl, hm, hz, _, hcell, hwz⟩
    · simp [Value.cells] at hcs
      obtain ⟨rfl, rfl, rfl⟩ := hcs
      exact ⟨[], .inl ⟨rfl, rfl, rfl, rfl⟩⟩
    · simp [Value.cells] at hcs
      obtain ⟨rfl, rfl, rfl⟩ := hcs
      exact ⟨zs, .inr ⟨_, rfl, hl, hm, by simpa using hz, hcell, hwz⟩⟩
  clear hA0 hval0
  refine (walk a0 len0 cap0 z0 W w0).mono fun e W' ⟨he, bel⟩ => ?_
  subst he
  exact ⟨_, rfl, _, _, _, [], _, [], hW', trodAll_mk1 (shut_bool Try.underlying4 _), (trodAll_cons_mk (Below.trod laidOut (by kernel_rfl) (of_decide_eq_true (by kernel_rfl)) k0 bel lt0) trodAll_mk0), rfl, bel.frame _, fun h => by cases h⟩

theorem over : Rows.fnInkAndBackRow.holds Try.pinned (OpenSpec.ofChange Rows.fnInkAndBackSpec) :=
  OpenClaim.holds_of_wide 7 Try.f7 rfl rfl rfl rfl rfl rfl rfl ⟨rfl, rfl, rfl, rfl, rfl⟩ rfl rfl rfl rfl rfl (by kernel_rfl) Try.func7 (by kernel_rfl)
    (of_decide_eq_true (by kernel_rfl)) (by unfold Func.isWrapper; first | (rw [if_pos (by decide +kernel)]; kernel_rfl) | (rw [if_neg (by decide +kernel)]; exact ⟨rfl, rfl⟩))
    (fun os started H enc _ => lifted os started H enc)

theorem proved : Rows.FnInkAndBackSaid := over
#print axioms proved
end Go.Proofs.Ytcpjngfiefkodaa.fnInkAndBack
