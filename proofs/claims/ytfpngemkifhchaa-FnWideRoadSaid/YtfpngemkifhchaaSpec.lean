/-
  The walks over the reference (package spec) and the small helpers of the laws: what each returns; the memory stays as it is.
-/
import Derived.Test.YtfpngemkifhchaaConv
namespace Go.Proofs.Ytfpngemkifhchaa
open Go.RowKit

theorem wide_any (w : World) (v : Int) (_v0 : 0 ≤ v) (_v1 : v ≤ 255) :
    Calls Try.prog 34 #[.int .u8 v] w fun e w' => e = .returned (.int .u32 (257 * v)) ∧ w = w' := by
  go_enter Try.func34, Try.ntmps34
  go_wp2
  go_ret
  exact ⟨rfl, rfl⟩

theorem scaled_any (w : World) (v a : Int) (v0 : 0 ≤ v) (v1 : v ≤ 65535) (a0 : 0 ≤ a) (a1 : a ≤ 65535) :
    Calls Try.prog 36 #[.int .u32 v, .int .u32 a] w fun e w' => e = .returned (.int .u32 (Col.scaled16 v a)) ∧ w = w' := by
  have b := Col.mul_bd v0 v1 a0 a1
  generalize hp : v * a = p at b
  obtain ⟨b0, b1⟩ := b
  go_enter Try.func36, Try.ntmps36
  go_wp2
  go_ret
  exact ⟨by unfold Col.scaled16; rw [hp]; rfl, rfl⟩












theorem clamp_any (w : World) (n : Int) :
    Calls Try.prog 50 #[.int .i64 n] w fun e w' => e = .returned (.int .i64 (Col.clamp n)) ∧ w = w' := by
  obtain ⟨p, q, h1, h2, hq⟩ := Col.clamp_eq n
  have HQ := Lib.hid hq
  clear hq
  go_enter Try.func50, Try.ntmps50
  go_wp2
  go_ret
  exact ⟨by rw [← HQ.out]; rfl, rfl⟩



theorem rgbOf_any (w : World) (y cb cr : Int) (_y0 : 0 ≤ y) (_y1 : y ≤ 255) (_cb0 : 0 ≤ cb) (_cb1 : cb ≤ 255) (_cr0 : 0 ≤ cr) (_cr1 : cr ≤ 255) :
    Calls Try.prog 29 #[.int .u8 y, .int .u8 cb, .int .u8 cr] w fun e w' => e = .returned (.tuple #[.int .i64 (Col.clamp (100000 * y + 140200 * (cr - 128))), .int .i64 (Col.clamp (100000 * y - 34414 * (cb - 128) - 71414 * (cr - 128))), .int .i64 (Col.clamp (100000 * y + 177200 * (cb - 128)))]) ∧ w = w' := by
  go_enter Try.func29, Try.ntmps29
  go_wp2_with fail
  refine (clamp_any _ _).mono ?_
  rintro e w1 ⟨rfl, rfl⟩
  go_wp2_with fail
  refine (clamp_any _ _).mono ?_
  rintro e w1 ⟨rfl, rfl⟩
  go_wp2_with fail
  refine (clamp_any _ _).mono ?_
  rintro e w1 ⟨rfl, rfl⟩
  go_wp2
  go_ret3
  exact ⟨rfl, rfl⟩

theorem off_any (w : World) (v x : Int) (_v0 : 0 ≤ v) (_v1 : v ≤ 65535) (_x0 : 0 ≤ x) (_x1 : x ≤ 6553500000) :
    Calls Try.prog 30 #[.int .i64 v, .int .i64 x] w fun e w' => e = .returned (.int .i64 (Col.off v x)) ∧ w = w' := by
  by_cases h : v * 100000 - x < 0
  · go_enter Try.func30, Try.ntmps30
    go_wp2
    go_ret
    exact ⟨by unfold Col.off; rw [if_pos (by omega)]; rfl, rfl⟩
  · go_enter Try.func30, Try.ntmps30
    go_wp2
    go_ret
    exact ⟨by unfold Col.off; rw [if_neg (by omega)]; rfl, rfl⟩




end Go.Proofs.Ytfpngemkifhchaa
