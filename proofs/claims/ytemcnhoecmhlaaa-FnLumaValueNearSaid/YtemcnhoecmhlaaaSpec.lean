/-
  The walks over the reference (package spec) and the small helpers of the laws: what each returns; the memory stays as it is.
-/
import Derived.Test.YtemcnhoecmhlaaaConv
namespace Go.Proofs.Ytemcnhoecmhlaaa
open Go.RowKit














theorem clamp_any (w : World) (n : Int) :
    Calls Try.prog 33 #[.int .i64 n] w fun e w' => e = .returned (.int .i64 (Col.clamp n)) ∧ w = w' := by
  obtain ⟨p, q, h1, h2, hq⟩ := Col.clamp_eq n
  have HQ := Lib.hid hq
  clear hq
  go_enter Try.func33, Try.ntmps33
  go_wp2
  go_ret
  exact ⟨by rw [← HQ.out]; rfl, rfl⟩



theorem rgbOf_any (w : World) (y cb cr : Int) (_y0 : 0 ≤ y) (_y1 : y ≤ 255) (_cb0 : 0 ≤ cb) (_cb1 : cb ≤ 255) (_cr0 : 0 ≤ cr) (_cr1 : cr ≤ 255) :
    Calls Try.prog 17 #[.int .u8 y, .int .u8 cb, .int .u8 cr] w fun e w' => e = .returned (.tuple #[.int .i64 (Col.clamp (100000 * y + 140200 * (cr - 128))), .int .i64 (Col.clamp (100000 * y - 34414 * (cb - 128) - 71414 * (cr - 128))), .int .i64 (Col.clamp (100000 * y + 177200 * (cb - 128)))]) ∧ w = w' := by
  go_enter Try.func17, Try.ntmps17
  go_wp2_with fail
  refine (clamp_any _ _).mono ?_
  rintro e w1 ⟨rfl, rfl⟩
  go_wp2_with fail
  refine (clamp_any _ _).mono ?_
  rintro e w1 ⟨rfl, rfl⟩
  go_wp2_with fail
  refine (clamp_any _ _).mono ?_
  rintro e w1 ⟨rfl, rfl⟩
  go_wp2
  go_ret3
  exact ⟨rfl, rfl⟩

theorem off_any (w : World) (v x : Int) (_v0 : 0 ≤ v) (_v1 : v ≤ 65535) (_x0 : 0 ≤ x) (_x1 : x ≤ 6553500000) :
    Calls Try.prog 18 #[.int .i64 v, .int .i64 x] w fun e w' => e = .returned (.int .i64 (Col.off v x)) ∧ w = w' := by
  by_cases h : v * 100000 - x < 0
  · go_enter Try.func18, Try.ntmps18
    go_wp2
    go_ret
    exact ⟨by unfold Col.off; rw [if_pos (by omega)]; rfl, rfl⟩
  · go_enter Try.func18, Try.ntmps18
    go_wp2
    go_ret
    exact ⟨by unfold Col.off; rw [if_neg (by omega)]; rfl, rfl⟩




end Go.Proofs.Ytemcnhoecmhlaaa
