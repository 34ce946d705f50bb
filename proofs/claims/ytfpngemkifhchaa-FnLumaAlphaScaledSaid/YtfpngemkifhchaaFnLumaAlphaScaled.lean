/- Proved: the values of a colour of luma and chroma with an alpha are those without it, scaled by it, and rounded down (laws.FnLumaAlphaScaled returns true). No condition: for every input. -/
import Derived.Test.YtfpngemkifhchaaDraw
import Derived.Test.YtfpngemkifhchaaSpec
import Derived.Test.YtfpngemkifhchaaNum
import Derived.Test.YtfpngemkifhchaaLuma
import Derived.Test.YtfpngemkifhchaaHeld
import Derived.WalkKit
import Derived.ProofKit
import Derived.OpenShut
import Derived.ShutString
import Derived.ChangeOld
import Derived.Below
namespace Go.Proofs.Ytfpngemkifhchaa.fnLumaAlphaScaled
open Go.ChangeShapes Go.WideShapes Go.ChangeAt Go.RowKit
open Go.ChangeMaps (open_string shut_string)
set_option linter.unusedVariables false

theorem own : ownKnob Try.prog.godebug = none := by kernel_rfl
theorem laidOut : laidOutB Try.prog = true := by kernel_rfl

set_option maxHeartbeats 2000000 in
theorem walk (a0 : Option Addr) (len0 cap0 : Nat) (z0 : List Int) (w : World) (w0 : IsRow .u8 w a0 len0 cap0 z0) :
    Calls Try.prog 12 #[.slice a0 len0 cap0] w fun e w' => e = .returned (.bool true) ∧ Below w.heap.size w w' := by
  go_enter Try.func12, Try.ntmps12
  go_wp2_with fail
  refine (draw4 w a0 len0 cap0 z0 w0).mono ?_
  rintro e w1 ⟨a, b, c, d, ha, ha', hb, hb', hc, hc', hd, hd', rfl, bel⟩
  have B1 := Lib.hid bel
  clear bel w0
  obtain ⟨g1, g1'⟩ : 0 ≤ Col.red16 a c ∧ Col.red16 a c ≤ 65535 := Col.clip16_bd _
  obtain ⟨g2, g2'⟩ : 0 ≤ Col.green16 a b c ∧ Col.green16 a b c ≤ 65535 := Col.clip16_bd _
  obtain ⟨g3, g3'⟩ : 0 ≤ Col.blue16 a b ∧ Col.blue16 a b ≤ 65535 := Col.clip16_bd _
  go_wp2_with fail
  refine (ycbcr_any _ a b c ha ha' hb hb' hc hc').mono ?_
  rintro e w2 ⟨rfl, bel⟩
  have B2 := Lib.hid (B1.out.trans (bel.mono B1.out.size))
  clear bel
  go_wp2_with fail
  refine (values_lies w _ B2.out _ _ _ _).mono ?_
  rintro e w3 ⟨X, rfl, hX, b3, _, c0, c1, c2, _⟩
  have B3 := Lib.hid b3
  clear b3 hX
  go_wp2_with fail
  refine (wide_any _ d hd hd').mono ?_
  rintro e wx ⟨rfl, rfl⟩
  go_wp2_with fail
  go_region_held3 (fun w' => Below w.heap.size w w' ∧ w'.cell? ⟨X, 0, none⟩ = some (.int .u32 (Col.red16 a c)) ∧ w'.cell? ⟨X, 1, none⟩ = some (.int .u32 (Col.green16 a b c)) ∧ w'.cell? ⟨X, 2, none⟩ = some (.int .u32 (Col.blue16 a b)))
    (first | exact ⟨B3.out.drew, c0, c1, c2⟩ | exact keep_call (by assumption) (by assumption) | exact keep_call (by assumption) ((Below.refl _ _).alloc (Nat.le_refl _) _) | assumption)
    (first | (go_at_call 35; refine (nycbcra_any _ a b c d ha ha' hb hb' hc hc' hd hd').mono ?_; rintro e w4 ⟨rfl, bel4⟩) | (go_at_call 20; refine (values_lies w _ (And.left (by assumption)) _ _ _ _).mono ?_; rintro e w5 ⟨A, rfl, hA, _, bel5, x0, x1, x2, x3⟩) | (go_at_call 36; refine (scaled_any _ _ _ (by omega) (by omega) (by omega) (by omega)).mono ?_; rintro e w6 ⟨rfl, rfl⟩) | (go_at_call 19; refine (same_below w _ (And.left (by assumption)) A w5.heap.size (Col.scaled16 (Col.red16 a c) (257 * d)) (Col.scaled16 (Col.green16 a b c) (257 * d)) (Col.scaled16 (Col.blue16 a b) (257 * d)) (257 * d) (by rw [World.cell?_alloc_lt _ _ _ hA]; exact x0) (by rw [World.cell?_alloc_lt _ _ _ hA]; exact x1) (by rw [World.cell?_alloc_lt _ _ _ hA]; exact x2) (by rw [World.cell?_alloc_lt _ _ _ hA]; exact x3) (by simp) (by simp) (by simp) (by simp)).mono ?_; rintro e w7 ⟨rfl, B7, k7⟩))
  go_wp2
  go_ret
  exact ⟨rfl, B7⟩

set_option maxRecDepth 100000 in
theorem lifted (os : Os) (started : os.Started) (H : Type) (enc : TypeId × Value → H) :
    ReturnsInHanded {} Try.checked os 12 .any (Rows.fnLumaAlphaScaledSpec.pre6 enc Try.prog Try.f12 Rows.fnLumaAlphaScaledRow.domain false) (Rows.fnLumaAlphaScaledSpec.post enc Try.prog Try.f12 false true false false) := by
  refine returnsInHanded_of_change (C := Try.checked) own started (by kernel_rfl) Try.func12
    (ChangeSpec.witness6 (enc := enc) (C := Try.checked) false ⟨#[], #[.slice none 0 0], []⟩ 8 (by kernel_rfl) (by kernel_rfl) (by kernel_rfl) (by kernel_rfl)) ?_
  intro W base args ds gs before hval0 hW hcnd _
  have hval : ∀ (j : Nat) t v, Try.f12.params[j]? = some t → args[j]? = some v → Value.okWide Try.prog W .any base t v := hval0
  have hW' := hW
  obtain ⟨p, q, hA0, hV, rfl, hfz, hnd⟩ := hW
  have hA : DataW.TrodAll enc Try.prog W 0 (fun _ => true) true Try.f12.params.toList args.toList ds p := hA0
  rw [Try.params12] at hA hval
  obtain ⟨v0, vs0, d0, ds0, p0, q0, hargs, rfl, rfl, h0, r0⟩ := trodAll_cons hA
  obtain ⟨rfl, rfl, rfl⟩ := trodAll_nil r0
  obtain rfl : args = #[v0] := by cases args; simp_all
  obtain ⟨rfl, rfl⟩ := trodVars_none hV
  obtain ⟨a0, len0, cap0, rfl⟩ := okWide_slice Try.underlying22 (hval 0 22 v0 rfl rfl)
  have k0 := h0
  have lt0 : ∀ x ∈ p0, x.block < W.heap.size := by obtain ⟨m, hm⟩ := k0; exact DataW.trod_lt m _ _ _ hm
  obtain ⟨z0, w0⟩ : ∃ zs, IsRow .u8 W a0 len0 cap0 zs := by
    obtain ⟨fuel, hf⟩ := h0
    rcases open_ints Try.underlying22 Try.underlying5 (by kernel_rfl) hf with ⟨hcs, _⟩ | ⟨x, l, c, zs, hcs, _, hl, hm, hz, _, hcell, hwz⟩
    · simp [Value.cells] at hcs
      obtain ⟨rfl, rfl, rfl⟩ := hcs
      exact ⟨[], .inl ⟨rfl, rfl, rfl, rfl⟩⟩
    · simp [Value.cells] at hcs
      obtain ⟨rfl, rfl, rfl⟩ := hcs
      exact ⟨zs, .inr ⟨_, rfl, hl, hm, by simpa using hz, hcell, hwz⟩⟩
  clear hA0 hval0
  refine (walk a0 len0 cap0 z0 W w0).mono fun e W' ⟨he, bel⟩ => ?_
  subst he
  exact ⟨_, rfl, _, _, _, [], _, [], hW', trodAll_mk1 (shut_bool Try.underlying4 _), (trodAll_cons_mk (Below.trod laidOut (by kernel_rfl) (of_decide_eq_true (by kernel_rfl)) k0 bel lt0) trodAll_mk0), rfl, bel.frame _, fun h => by cases h⟩

theorem over : Rows.fnLumaAlphaScaledRow.holds Try.pinned (OpenSpec.ofChange Rows.fnLumaAlphaScaledSpec) :=
  OpenClaim.holds_of_wide 12 Try.f12 rfl rfl rfl rfl rfl rfl rfl ⟨rfl, rfl, rfl, rfl, rfl⟩ rfl rfl rfl rfl rfl (by kernel_rfl) Try.func12 (by kernel_rfl)
    (of_decide_eq_true (by kernel_rfl)) (by unfold Func.isWrapper; first | (rw [if_pos (by decide +kernel)]; kernel_rfl) | (rw [if_neg (by decide +kernel)]; exact ⟨rfl, rfl⟩))
    (fun os started H enc _ => lifted os started H enc)

theorem proved : Rows.FnLumaAlphaScaledSaid := over
#print axioms proved
end Go.Proofs.Ytfpngemkifhchaa.fnLumaAlphaScaled
