/-
  Plain laws of the values that image/color computes: no program in sight.
-/
import Derived.Test.YtannfmfhljeioaaPlain
namespace Go.Proofs.Ytannfmfhljeioaa.Col
open Go

/-! ## Bounds -/
theorem clip8_bd (x : Int) : 0 ≤ clip8 x ∧ clip8 x ≤ 255 := by unfold clip8; split <;> (try split) <;> omega
theorem clip16_bd (x : Int) : 0 ≤ clip16 x ∧ clip16 x ≤ 65535 := by unfold clip16; split <;> (try split) <;> omega
theorem luma_bd (r g b : Int) (r0 : 0 ≤ r) (r1 : r ≤ 255) (g0 : 0 ≤ g) (g1 : g ≤ 255) (b0 : 0 ≤ b) (b1 : b ≤ 255) : 0 ≤ luma r g b ∧ luma r g b ≤ 255 := by unfold luma; omega
theorem scaled16_bd (v a : Int) (v0 : 0 ≤ v) (v1 : v ≤ 65535) (a0 : 0 ≤ a) (a1 : a ≤ 65535) : 0 ≤ scaled16 v a ∧ scaled16 v a ≤ 65535 := by
  have b := mul_bd v0 v1 a0 a1
  unfold scaled16
  omega
theorem scaled8_bd (v a : Int) (v0 : 0 ≤ v) (v1 : v ≤ 255) (a0 : 0 ≤ a) (a1 : a ≤ 255) : 0 ≤ scaled8 v a ∧ scaled8 v a ≤ 65535 := by
  have b := mul_bd v0 v1 a0 a1
  unfold scaled8
  omega

/-! ## Inks -/
theorem inkOf_alone (a : Int) (a0 : 0 ≤ a) (a1 : a ≤ 255) : inkOf a 0 = 255 - a := by
  unfold inkOf ink16
  omega
theorem inkOf_black (a : Int) (a0 : 0 ≤ a) (a1 : a ≤ 255) : inkOf 0 a = 255 - a := by
  unfold inkOf ink16
  omega
theorem inkOf_near (c k : Int) (c0 : 0 ≤ c) (c1 : c ≤ 255) (k0 : 0 ≤ k) (k1 : k ≤ 255) : (255 - c) * (255 - k) - 255 * inkOf c k < 255 ∧ -255 < (255 - c) * (255 - k) - 255 * inkOf c k := by
  have b := mul_bd (x := 255 - c) (y := 255 - k) (A := 255) (B := 255) (by omega) (by omega) (by omega) (by omega)
  unfold inkOf ink16
  generalize (255 - c) * (255 - k) = p at b
  omega
theorem scaled_ink (c k : Int) : scaled16 (257 * (255 - c)) (257 * (255 - k)) = ink16 c k := by
  unfold scaled16 ink16
  rw [mul_257]
  omega
theorem scaled_wide (v a : Int) : scaled16 (257 * v) (257 * a) = scaled8 v a := by
  unfold scaled16 scaled8
  rw [mul_257]
  omega

/-! ## There and back -/
theorem cb_spec (r g b : Int) (r0 : 0 ≤ r) (r1 : r ≤ 255) (g0 : 0 ≤ g) (g1 : g ≤ 255) (b0 : 0 ≤ b) (b1 : b ≤ 255) :
    65536 * cbOf r g b ≤ -11056 * r - 21712 * g + 32768 * b + 8421376 ∧ -11056 * r - 21712 * g + 32768 * b + 8421376 ≤ 65536 * cbOf r g b + 65536 := by
  unfold cbOf clip8
  split
  · omega
  · split <;> omega
theorem cr_spec (r g b : Int) (r0 : 0 ≤ r) (r1 : r ≤ 255) (g0 : 0 ≤ g) (g1 : g ≤ 255) (b0 : 0 ≤ b) (b1 : b ≤ 255) :
    65536 * crOf r g b ≤ 32768 * r - 27440 * g - 5328 * b + 8421376 ∧ 32768 * r - 27440 * g - 5328 * b + 8421376 ≤ 65536 * crOf r g b + 65536 := by
  unfold crOf clip8
  split
  · omega
  · split <;> omega
theorem luma_spec (r g b : Int) : 65536 * luma r g b ≤ 19595 * r + 38470 * g + 7471 * b + 32768 ∧ 19595 * r + 38470 * g + 7471 * b + 32768 ≤ 65536 * luma r g b + 65535 := by
  unfold luma; omega

/-- A clip is near to v if what is clipped is, for v from 0 to 255. -/
theorem clip8_near (x v : Int) (v0 : 0 ≤ v) (v1 : v ≤ 255) (h0 : 65536 * v - 131072 ≤ x) (h1 : x < 65536 * v + 196608) : clip8 x - v ≤ 2 ∧ v - clip8 x ≤ 2 := by
  unfold clip8
  split
  · omega
  · split <;> omega

theorem back_red (r g b : Int) (r0 : 0 ≤ r) (r1 : r ≤ 255) (g0 : 0 ≤ g) (g1 : g ≤ 255) (b0 : 0 ≤ b) (b1 : b ≤ 255) :
    redOf (luma r g b) (crOf r g b) - r ≤ 2 ∧ r - redOf (luma r g b) (crOf r g b) ≤ 2 := by
  have hy := luma_spec r g b
  have hr := cr_spec r g b r0 r1 g0 g1 b0 b1
  have hb := luma_bd r g b r0 r1 g0 g1 b0 b1
  unfold redOf
  refine clip8_near _ r r0 r1 ?_ ?_
  · unfold redX; generalize luma r g b = y at *; generalize crOf r g b = c at *; omega
  · unfold redX; generalize luma r g b = y at *; generalize crOf r g b = c at *; omega
theorem back_blue (r g b : Int) (r0 : 0 ≤ r) (r1 : r ≤ 255) (g0 : 0 ≤ g) (g1 : g ≤ 255) (b0 : 0 ≤ b) (b1 : b ≤ 255) :
    blueOf (luma r g b) (cbOf r g b) - b ≤ 2 ∧ b - blueOf (luma r g b) (cbOf r g b) ≤ 2 := by
  have hy := luma_spec r g b
  have hr := cb_spec r g b r0 r1 g0 g1 b0 b1
  have hb := luma_bd r g b r0 r1 g0 g1 b0 b1
  unfold blueOf
  refine clip8_near _ b b0 b1 ?_ ?_
  · unfold blueX; generalize luma r g b = y at *; generalize cbOf r g b = c at *; omega
  · unfold blueX; generalize luma r g b = y at *; generalize cbOf r g b = c at *; omega
theorem back_green (r g b : Int) (r0 : 0 ≤ r) (r1 : r ≤ 255) (g0 : 0 ≤ g) (g1 : g ≤ 255) (b0 : 0 ≤ b) (b1 : b ≤ 255) :
    greenOf (luma r g b) (cbOf r g b) (crOf r g b) - g ≤ 2 ∧ g - greenOf (luma r g b) (cbOf r g b) (crOf r g b) ≤ 2 := by
  have hy := luma_spec r g b
  have hr := cr_spec r g b r0 r1 g0 g1 b0 b1
  have hs := cb_spec r g b r0 r1 g0 g1 b0 b1
  have hb := luma_bd r g b r0 r1 g0 g1 b0 b1
  unfold greenOf
  refine clip8_near _ g g0 g1 ?_ ?_
  · unfold greenX; generalize luma r g b = y at *; generalize crOf r g b = c at *; generalize cbOf r g b = d at *; omega
  · unfold greenX; generalize luma r g b = y at *; generalize crOf r g b = c at *; generalize cbOf r g b = d at *; omega

/-! ## Scaled values -/
theorem mul_mono {x y a b : Int} (x0 : 0 ≤ x) (h : x ≤ y) (a0 : 0 ≤ a) (k : a ≤ b) : x * a ≤ y * b := Int.mul_le_mul h k a0 (by omega)
theorem scaled8_mono {v u a b : Int} (v0 : 0 ≤ v) (h : v ≤ u) (a0 : 0 ≤ a) (k : a ≤ b) : scaled8 v a ≤ scaled8 u b := by
  have := mul_mono v0 h a0 k
  unfold scaled8
  generalize v * a = p at *
  generalize u * b = q at *
  omega
theorem scaled16_below (v a : Int) (v0 : 0 ≤ v) (v1 : v ≤ 65535) (a0 : 0 ≤ a) : scaled16 v a ≤ a := by
  have := mul_mono v0 v1 a0 (Int.le_refl a)
  unfold scaled16
  generalize v * a = p at *
  omega
theorem scaled16_near (v a : Int) : v * a - 65535 * scaled16 v a < 65535 ∧ -65535 < v * a - 65535 * scaled16 v a := by
  unfold scaled16
  generalize v * a = p
  omega
theorem scaled16_full (v : Int) : scaled16 v 65535 = v := by unfold scaled16; omega
theorem scaled8_full (v : Int) : scaled8 v 255 = 257 * v := by unfold scaled8; omega
theorem scaled8_zero (v : Int) : scaled8 v 0 = 0 := by unfold scaled8; omega
theorem scaled8_near (v a : Int) : 257 * (v * a) - 255 * scaled8 v a < 255 ∧ -255 < 257 * (v * a) - 255 * scaled8 v a := by
  unfold scaled8
  generalize v * a = p
  omega
theorem scaled8_below (v a : Int) (v0 : 0 ≤ v) (v1 : v ≤ 255) (a0 : 0 ≤ a) : scaled8 v a ≤ 257 * a := by
  have := mul_mono v0 v1 a0 (Int.le_refl a)
  unfold scaled8
  generalize v * a = p at *
  omega
theorem scaled8_comm (v a : Int) : scaled8 v a = scaled8 a v := by unfold scaled8; rw [Int.mul_comm v a]
theorem clip_top (x : Int) : clip16 x / 256 = clip8 x := by
  unfold clip16 clip8
  split
  · omega
  · split <;> omega

/-! ## Inks of a colour -/
theorem cyan_bright (v : Int) : cyanOf v 255 = 255 - v := by unfold cyanOf; rw [if_neg (by omega)]; omega
theorem most_self (a : Int) : most a a a = a := by unfold most; omega
theorem most_bright (b c : Int) (b1 : b ≤ 255) (c1 : c ≤ 255) : most 255 b c = 255 := by unfold most; omega

end Go.Proofs.Ytannfmfhljeioaa.Col
