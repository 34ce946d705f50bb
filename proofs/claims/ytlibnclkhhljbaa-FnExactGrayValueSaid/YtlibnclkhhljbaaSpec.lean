/-
  The walks over the reference (package spec) and the small helpers of the laws: what each returns; the memory stays as it is.
-/
import Derived.Test.YtlibnclkhhljbaaConv
namespace Go.Proofs.Ytlibnclkhhljbaa
open Go.RowKit

theorem wide_any (w : World) (v : Int) (_v0 : 0 ≤ v) (_v1 : v ≤ 255) :
    Calls Try.prog 21 #[.int .u8 v] w fun e w' => e = .returned (.int .u32 (257 * v)) ∧ w = w' := by
  go_enter Try.func21, Try.ntmps21
  go_wp2
  go_ret
  exact ⟨rfl, rfl⟩

theorem scaled_any (w : World) (v a : Int) (v0 : 0 ≤ v) (v1 : v ≤ 65535) (a0 : 0 ≤ a) (a1 : a ≤ 65535) :
    Calls Try.prog 46 #[.int .u32 v, .int .u32 a] w fun e w' => e = .returned (.int .u32 (Col.scaled16 v a)) ∧ w = w' := by
  have b := Col.mul_bd v0 v1 a0 a1
  generalize hp : v * a = p at b
  obtain ⟨b0, b1⟩ := b
  go_enter Try.func46, Try.ntmps46
  go_wp2
  go_ret
  exact ⟨by unfold Col.scaled16; rw [hp]; rfl, rfl⟩

set_option maxHeartbeats 1000000 in
theorem specCMYK_any (w : World) (c m y k : Int) (c0 : 0 ≤ c) (c1 : c ≤ 255) (m0 : 0 ≤ m) (m1 : m ≤ 255) (y0 : 0 ≤ y) (y1 : y ≤ 255) (k0 : 0 ≤ k) (k1 : k ≤ 255) :
    Calls Try.prog 31 #[.int .u8 c, .int .u8 m, .int .u8 y, .int .u8 k] w fun e w' => e = .returned (.tuple #[.int .u32 (Col.scaled16 (257 * (255 - c)) (257 * (255 - k))), .int .u32 (Col.scaled16 (257 * (255 - m)) (257 * (255 - k))), .int .u32 (Col.scaled16 (257 * (255 - y)) (257 * (255 - k))), .int .u32 65535]) ∧ w = w' := by
  go_enter Try.func31, Try.ntmps31
  go_wp2_with (first | (go_at_call 21; refine (wide_any _ _ (by omega) (by omega)).mono ?_; rintro e w' ⟨rfl, rfl⟩) | (go_at_call 46; refine (scaled_any _ _ _ (by omega) (by omega) (by omega) (by omega)).mono ?_; rintro e w' ⟨rfl, rfl⟩))
  ((try simp only [Exit.inBlock, Exit.then]); refine bodyPost_ret (results_tmp4 rfl _ _ _) rfl ?_)
  exact ⟨rfl, rfl⟩

theorem specRGBA_any (w : World) (c m y k : Int) (c0 : 0 ≤ c) (c1 : c ≤ 255) (m0 : 0 ≤ m) (m1 : m ≤ 255) (y0 : 0 ≤ y) (y1 : y ≤ 255) (k0 : 0 ≤ k) (k1 : k ≤ 255) :
    Calls Try.prog 33 #[.int .u8 c, .int .u8 m, .int .u8 y, .int .u8 k] w fun e w' => e = .returned (.tuple #[.int .u32 (257 * c), .int .u32 (257 * m), .int .u32 (257 * y), .int .u32 (257 * k)]) ∧ w = w' := by
  go_enter Try.func33, Try.ntmps33
  go_wp2_with (go_at_call 21; refine (wide_any _ _ (by omega) (by omega)).mono ?_; rintro e w' ⟨rfl, rfl⟩)
  ((try simp only [Exit.inBlock, Exit.then]); refine bodyPost_ret (results_tmp4 rfl _ _ _) rfl ?_)
  exact ⟨rfl, rfl⟩

theorem specRGBA64_any (w : World) (c m y k : Int) (c0 : 0 ≤ c) (c1 : c ≤ 65535) (m0 : 0 ≤ m) (m1 : m ≤ 65535) (y0 : 0 ≤ y) (y1 : y ≤ 65535) (k0 : 0 ≤ k) (k1 : k ≤ 65535) :
    Calls Try.prog 15 #[.int .u16 c, .int .u16 m, .int .u16 y, .int .u16 k] w fun e w' => e = .returned (.tuple #[.int .u32 c, .int .u32 m, .int .u32 y, .int .u32 k]) ∧ w = w' := by
  go_enter Try.func15, Try.ntmps15
  go_wp2
  ((try simp only [Exit.inBlock, Exit.then]); refine bodyPost_ret (results_tmp4 rfl _ _ _) rfl ?_)
  exact ⟨rfl, rfl⟩



theorem mixed_any (w : World) (v c k : Int) (_v0 : 0 ≤ v) (_v1 : v ≤ 255) (c0 : 0 ≤ c) (c1 : c ≤ 255) (k0 : 0 ≤ k) (k1 : k ≤ 255) (h0 : (255 - c) * (255 - k) - 255 * v < 255) (h1 : -255 < (255 - c) * (255 - k) - 255 * v) :
    Calls Try.prog 27 #[.int .u8 v, .int .u8 c, .int .u8 k] w fun e w' => e = .returned (.bool true) ∧ w = w' := by
  have b := Col.mul_bd (x := 255 - c) (y := 255 - k) (A := 255) (B := 255) (by omega) (by omega) (by omega) (by omega)
  generalize hp : (255 - c) * (255 - k) = p at b h0 h1
  obtain ⟨b0, b1⟩ := b
  go_enter Try.func27, Try.ntmps27
  go_wp2
  go_ret
  exact ⟨rfl, rfl⟩

end Go.Proofs.Ytlibnclkhhljbaa
