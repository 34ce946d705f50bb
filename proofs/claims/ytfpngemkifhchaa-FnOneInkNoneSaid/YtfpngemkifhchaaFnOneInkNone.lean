/- Proved: the ink of each value that is the greatest one is 0 (laws.FnOneInkNone returns true). No condition: for every input. -/
import Derived.Test.YtfpngemkifhchaaDraw
import Derived.Test.YtfpngemkifhchaaSpec
import Derived.Test.YtfpngemkifhchaaNum
import Derived.WalkKit
import Derived.ProofKit
import Derived.OpenShut
import Derived.ShutString
import Derived.ChangeOld
import Derived.Below
namespace Go.Proofs.Ytfpngemkifhchaa.fnOneInkNone
open Go.ChangeShapes Go.WideShapes Go.ChangeAt Go.RowKit
open Go.ChangeMaps (open_string shut_string)
set_option linter.unusedVariables false

theorem own : ownKnob Try.prog.godebug = none := by kernel_rfl
theorem laidOut : laidOutB Try.prog = true := by kernel_rfl

set_option maxHeartbeats 2000000 in
theorem walk (a0 : Option Addr) (len0 cap0 : Nat) (z0 : List Int) (w : World) (w0 : IsRow .u8 w a0 len0 cap0 z0) :
    Calls Try.prog 3 #[.slice a0 len0 cap0] w fun e w' => e = .returned (.bool true) ∧ Below w.heap.size w w' := by
  go_enter Try.func3, Try.ntmps3
  go_wp2_with fail
  refine (draw3 w a0 len0 cap0 z0 w0).mono ?_
  rintro e w1 ⟨a, b, c, ha, ha', hb, hb', hc, hc', rfl, bel⟩
  have B1 := Lib.hid bel
  clear bel w0
  obtain ⟨m1, m2, m3, m4⟩ := Col.most_bd a b c
  have m5 : 0 ≤ Col.most a b c ∧ Col.most a b c ≤ 255 := by omega
  clear m4
  obtain ⟨m5, m6⟩ := m5
  obtain ⟨p0, p1⟩ := Col.cyanOf_bd a (Col.most a b c) ha m1
  obtain ⟨q0, q1⟩ := Col.cyanOf_bd b (Col.most a b c) hb m2
  obtain ⟨s0, s1⟩ := Col.cyanOf_bd c (Col.most a b c) hc m3
  obtain ⟨n, m, h1, h2, n0, n1, m0, m7, hm⟩ := Col.max3 a b c ha ha' hb hb' hc hc'
  have L1 := Lib.hid (fun h : m ≤ a => Col.cyan_none m1 (show Col.most a b c ≤ a by omega))
  have L2 := Lib.hid (fun h : m ≤ b => Col.cyan_none m2 (show Col.most a b c ≤ b by omega))
  have L3 := Lib.hid (fun h : m ≤ c => Col.cyan_none m3 (show Col.most a b c ≤ c by omega))
  have HM3 : Hid (m = a ∨ m = b ∨ m = c) := Lib.hid (by obtain ⟨_, _, _, q⟩ := Col.most_bd a b c; omega)
  clear hm
  obtain i1 | i1 : a < m ∨ m ≤ a := by omega
  all_goals obtain i2 | i2 : b < m ∨ m ≤ b := by omega
  all_goals obtain i3 | i3 : c < m ∨ m ≤ c := by omega
  all_goals first
    | (exfalso; have := HM3.out; omega)
    | (try have k1 := L1.out (by omega)
       try have k2 := L2.out (by omega)
       try have k3 := L3.out (by omega)
       go_wp2_with fail
       refine (toCMYK_any _ a b c ha ha' hb hb' hc hc').mono ?_
       rintro e wx ⟨rfl, rfl⟩
       go_wp2_with fail
       refine (alive_any _).mono ?_
       rintro e wx ⟨rfl, rfl⟩
       go_wp2
       go_ret
       exact ⟨rfl, B1.out⟩)

set_option maxRecDepth 100000 in
theorem lifted (os : Os) (started : os.Started) (H : Type) (enc : TypeId × Value → H) :
    ReturnsInHanded {} Try.checked os 3 .any (Rows.fnOneInkNoneSpec.pre6 enc Try.prog Try.f3 Rows.fnOneInkNoneRow.domain false) (Rows.fnOneInkNoneSpec.post enc Try.prog Try.f3 false true false false) := by
  refine returnsInHanded_of_change (C := Try.checked) own started (by kernel_rfl) Try.func3
    (ChangeSpec.witness6 (enc := enc) (C := Try.checked) false ⟨#[], #[.slice none 0 0], []⟩ 8 (by kernel_rfl) (by kernel_rfl) (by kernel_rfl) (by kernel_rfl)) ?_
  intro W base args ds gs before hval0 hW hcnd _
  have hval : ∀ (j : Nat) t v, Try.f3.params[j]? = some t → args[j]? = some v → Value.okWide Try.prog W .any base t v := hval0
  have hW' := hW
  obtain ⟨p, q, hA0, hV, rfl, hfz, hnd⟩ := hW
  have hA : DataW.TrodAll enc Try.prog W 0 (fun _ => true) true Try.f3.params.toList args.toList ds p := hA0
  rw [Try.params3] at hA hval
  obtain ⟨v0, vs0, d0, ds0, p0, q0, hargs, rfl, rfl, h0, r0⟩ := trodAll_cons hA
  obtain ⟨rfl, rfl, rfl⟩ := trodAll_nil r0
  obtain rfl : args = #[v0] := by cases args; simp_all
  obtain ⟨rfl, rfl⟩ := trodVars_none hV
  obtain ⟨a0, len0, cap0, rfl⟩ := okWide_slice Try.underlying22 (hval 0 22 v0 rfl rfl)
  have k0 := h0
  have lt0 : ∀ x ∈ p0, x.block < W.heap.size := by obtain ⟨m, hm⟩ := k0; exact DataW.trod_lt m _ _ _ hm
  obtain ⟨z0, w0⟩ : ∃ zs, IsRow .u8 W a0 len0 cap0 zs := by
    obtain ⟨fuel, hf⟩ := h0
    rcases open_ints Try.underlying22 Try.underlying5 (by kernel_rfl) hf with ⟨hcs, _⟩ | ⟨x, l, c, zs, hcs, _, hl, hm, hz, _, hcell, hwz⟩
    · simp [Value.cells] at hcs
      obtain ⟨rfl, rfl, rfl⟩ := hcs
      exact ⟨[], .inl ⟨rfl, rfl, rfl, rfl⟩⟩
    · simp [Value.cells] at hcs
      obtain ⟨rfl, rfl, rfl⟩ := hcs
      exact ⟨zs, .inr ⟨_, rfl, hl, hm, by simpa using hz, hcell, hwz⟩⟩
  clear hA0 hval0
  refine (walk a0 len0 cap0 z0 W w0).mono fun e W' ⟨he, bel⟩ => ?_
  subst he
  exact ⟨_, rfl, _, _, _, [], _, [], hW', trodAll_mk1 (shut_bool Try.underlying4 _), (trodAll_cons_mk (Below.trod laidOut (by kernel_rfl) (of_decide_eq_true (by kernel_rfl)) k0 bel lt0) trodAll_mk0), rfl, bel.frame _, fun h => by cases h⟩

theorem over : Rows.fnOneInkNoneRow.holds Try.pinned (OpenSpec.ofChange Rows.fnOneInkNoneSpec) :=
  OpenClaim.holds_of_wide 3 Try.f3 rfl rfl rfl rfl rfl rfl rfl ⟨rfl, rfl, rfl, rfl, rfl⟩ rfl rfl rfl rfl rfl (by kernel_rfl) Try.func3 (by kernel_rfl)
    (of_decide_eq_true (by kernel_rfl)) (by unfold Func.isWrapper; first | (rw [if_pos (by decide +kernel)]; kernel_rfl) | (rw [if_neg (by decide +kernel)]; exact ⟨rfl, rfl⟩))
    (fun os started H enc _ => lifted os started H enc)

theorem proved : Rows.FnOneInkNoneSaid := over
#print axioms proved
end Go.Proofs.Ytfpngemkifhchaa.fnOneInkNone
