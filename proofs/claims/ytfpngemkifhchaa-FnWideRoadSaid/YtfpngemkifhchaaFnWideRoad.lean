/- Proved: a colour that is not scaled has the same values as the one of 16 bits each with 257 times its values (laws.FnWideRoad returns true). No condition: for every input. -/
import Derived.Test.YtfpngemkifhchaaDraw
import Derived.Test.YtfpngemkifhchaaSpec
import Derived.Test.YtfpngemkifhchaaNum
import Derived.WalkKit
import Derived.ProofKit
import Derived.OpenShut
import Derived.ShutString
import Derived.ChangeOld
import Derived.Below
namespace Go.Proofs.Ytfpngemkifhchaa.fnWideRoad
open Go.ChangeShapes Go.WideShapes Go.ChangeAt Go.RowKit
open Go.ChangeMaps (open_string shut_string)
set_option linter.unusedVariables false

theorem own : ownKnob Try.prog.godebug = none := by kernel_rfl
theorem laidOut : laidOutB Try.prog = true := by kernel_rfl

set_option maxHeartbeats 2000000 in
theorem walk (a0 : Option Addr) (len0 cap0 : Nat) (z0 : List Int) (w : World) (w0 : IsRow .u8 w a0 len0 cap0 z0) :
    Calls Try.prog 7 #[.slice a0 len0 cap0] w fun e w' => e = .returned (.bool true) ∧ Below w.heap.size w w' := by
  go_enter Try.func7, Try.ntmps7
  go_wp2_with fail
  refine (draw4 w a0 len0 cap0 z0 w0).mono ?_
  rintro e w1 ⟨a, b, c, d, ha, ha', hb, hb', hc, hc', hd, hd', rfl, bel⟩
  have B1 := Lib.hid bel
  clear bel w0
  have hc3 := fun wx : World => nrgba64_any wx (257 * a) (257 * b) (257 * c) (257 * d) (by omega) (by omega) (by omega) (by omega) (by omega) (by omega) (by omega) (by omega)
  rw [Col.scaled_wide, Col.scaled_wide, Col.scaled_wide] at hc3
  have HD := Lib.hid hc3
  clear hc3
  go_wp2_with fail
  refine (nrgba_any _ a b c d ha ha' hb hb' hc hc' hd hd').mono ?_
  rintro e w2 ⟨rfl, bel⟩
  have B2 := Lib.hid (B1.out.trans (bel.mono B1.out.size))
  clear bel
  go_wp2_with fail
  refine (values_any _ _ _ _ _).mono ?_
  rintro e wx ⟨rfl, rfl⟩
  have A2 := Lib.hid (B2.out.alloc B2.out.size (.cells #[.int .u32 (Col.scaled8 a d), .int .u32 (Col.scaled8 b d), .int .u32 (Col.scaled8 c d), .int .u32 (257 * d)] 35))
  go_wp2_with fail
  refine (HD.out _).mono ?_
  rintro e w3 ⟨rfl, bel⟩
  have hz : w2.heap.size < w3.heap.size := by have := bel.size; simp at this; omega
  have c0 : w3.cell? ⟨w2.heap.size, 0, none⟩ = some (.int .u32 (Col.scaled8 a d)) := by rw [bel.cell (p := ⟨w2.heap.size, 0, none⟩) (by simp)]; simp
  have c1 : w3.cell? ⟨w2.heap.size, 1, none⟩ = some (.int .u32 (Col.scaled8 b d)) := by rw [bel.cell (p := ⟨w2.heap.size, 1, none⟩) (by simp)]; simp
  have c2 : w3.cell? ⟨w2.heap.size, 2, none⟩ = some (.int .u32 (Col.scaled8 c d)) := by rw [bel.cell (p := ⟨w2.heap.size, 2, none⟩) (by simp)]; simp
  have c3 : w3.cell? ⟨w2.heap.size, 3, none⟩ = some (.int .u32 (257 * d)) := by rw [bel.cell (p := ⟨w2.heap.size, 3, none⟩) (by simp)]; simp
  have B3 := Lib.hid (A2.out.trans (bel.mono A2.out.size))
  clear bel
  go_wp2_with fail
  refine (values_any _ _ _ _ _).mono ?_
  rintro e wx ⟨rfl, rfl⟩
  go_wp2_with fail
  refine (same_any _ w2.heap.size w3.heap.size (Col.scaled8 a d) (Col.scaled8 b d) (Col.scaled8 c d) (257 * d) (by rw [World.cell?_alloc_lt _ _ _ hz]; exact c0) (by rw [World.cell?_alloc_lt _ _ _ hz]; exact c1) (by rw [World.cell?_alloc_lt _ _ _ hz]; exact c2) (by rw [World.cell?_alloc_lt _ _ _ hz]; exact c3) (by simp) (by simp) (by simp) (by simp)).mono ?_
  rintro e w4 ⟨rfl, n4, hn⟩
  have B4 : Hid (Below w.heap.size w w4) := Lib.hid (by rw [hn]; exact below_drewN (B3.out.alloc B3.out.size _) _)
  clear hn c0 c1 c2 c3 hz
  go_wp2_with fail
  refine (alive_any _).mono ?_
  rintro e wx ⟨rfl, rfl⟩
  go_wp2
  go_ret
  exact ⟨rfl, B4.out⟩

set_option maxRecDepth 100000 in
theorem lifted (os : Os) (started : os.Started) (H : Type) (enc : TypeId × Value → H) :
    ReturnsInHanded {} Try.checked os 7 .any (Rows.fnWideRoadSpec.pre6 enc Try.prog Try.f7 Rows.fnWideRoadRow.domain false) (Rows.fnWideRoadSpec.post enc Try.prog Try.f7 false true false false) := by
  refine returnsInHanded_of_change (C := Try.checked) own started (by kernel_rfl) Try.func7
    (ChangeSpec.witness6 (enc := enc) (C := Try.checked) false ⟨#[], #[.slice none 0 0], []⟩ 8 (by kernel_rfl) (by kernel_rfl) (by kernel_rfl) (by kernel_rfl)) ?_
  intro W base args ds gs before hval0 hW hcnd _
  have hval : ∀ (j : Nat) t v, Try.f7.params[j]? = some t → args[j]? = some v → Value.okWide Try.prog W .any base t v := hval0
  have hW' := hW
  obtain ⟨p, q, hA0, hV, rfl, hfz, hnd⟩ := hW
  have hA : DataW.TrodAll enc Try.prog W 0 (fun _ => true) true Try.f7.params.toList args.toList ds p := hA0
  rw [Try.params7] at hA hval
  obtain ⟨v0, vs0, d0, ds0, p0, q0, hargs, rfl, rfl, h0, r0⟩ := trodAll_cons hA
  obtain ⟨rfl, rfl, rfl⟩ := trodAll_nil r0
  obtain rfl : args = #[v0] := by cases args; simp_all
  obtain ⟨rfl, rfl⟩ := trodVars_none hV
  obtain ⟨a0, len0, cap0, rfl⟩ := okWide_slice Try.underlying22 (hval 0 22 v0 rfl rfl)
  have k0 := h0
  have lt0 : ∀ x ∈ p0, x.block < W.heap.size := by obtain ⟨m, hm⟩ := k0; exact DataW.trod_lt m _ _ _ hm
  obtain ⟨z0, w0⟩ : ∃ zs, IsRow .u8 W a0 len0 cap0 zs := by
    obtain ⟨fuel, hf⟩ := h0
    rcases open_ints Try.underlying22 Try.underlying5 (by kernel_rfl) hf with ⟨hcs, _⟩ | ⟨x, l, c, zs, hcs, _, hl, hm, hz, _, hcell, hwz⟩
    · simp [Value.cells] at hcs
      obtain ⟨rfl, rfl, rfl⟩ := hcs
      exact ⟨[], .inl ⟨rfl, rfl, rfl, rfl⟩⟩
    · simp [Value.cells] at hcs
      obtain ⟨rfl, rfl, rfl⟩ := hcs
      exact ⟨zs, .inr ⟨_, rfl, hl, hm, by simpa using hz, hcell, hwz⟩⟩
  clear hA0 hval0
  refine (walk a0 len0 cap0 z0 W w0).mono fun e W' ⟨he, bel⟩ => ?_
  subst he
  exact ⟨_, rfl, _, _, _, [], _, [], hW', trodAll_mk1 (shut_bool Try.underlying4 _), (trodAll_cons_mk (Below.trod laidOut (by kernel_rfl) (of_decide_eq_true (by kernel_rfl)) k0 bel lt0) trodAll_mk0), rfl, bel.frame _, fun h => by cases h⟩

theorem over : Rows.fnWideRoadRow.holds Try.pinned (OpenSpec.ofChange Rows.fnWideRoadSpec) :=
  OpenClaim.holds_of_wide 7 Try.f7 rfl rfl rfl rfl rfl rfl rfl ⟨rfl, rfl, rfl, rfl, rfl⟩ rfl rfl rfl rfl rfl (by kernel_rfl) Try.func7 (by kernel_rfl)
    (of_decide_eq_true (by kernel_rfl)) (by unfold Func.isWrapper; first | (rw [if_pos (by decide +kernel)]; kernel_rfl) | (rw [if_neg (by decide +kernel)]; exact ⟨rfl, rfl⟩))
    (fun os started H enc _ => lifted os started H enc)

theorem proved : Rows.FnWideRoadSaid := over
#print axioms proved
end Go.Proofs.Ytfpngemkifhchaa.fnWideRoad
