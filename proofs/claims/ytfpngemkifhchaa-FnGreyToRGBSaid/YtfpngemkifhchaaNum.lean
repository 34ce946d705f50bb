/-
  Plain laws of the values that image/color computes: no program in sight.
-/
import Derived.Test.YtfpngemkifhchaaPlain
namespace Go.Proofs.Ytfpngemkifhchaa.Col
open Go

/-! ## Bounds -/
theorem clip8_bd (x : Int) : 0 ≤ clip8 x ∧ clip8 x ≤ 255 := by unfold clip8; split <;> (try split) <;> omega
theorem clip16_bd (x : Int) : 0 ≤ clip16 x ∧ clip16 x ≤ 65535 := by unfold clip16; split <;> (try split) <;> omega
theorem luma_bd (r g b : Int) (r0 : 0 ≤ r) (r1 : r ≤ 255) (g0 : 0 ≤ g) (g1 : g ≤ 255) (b0 : 0 ≤ b) (b1 : b ≤ 255) : 0 ≤ luma r g b ∧ luma r g b ≤ 255 := by unfold luma; omega
theorem scaled16_bd (v a : Int) (v0 : 0 ≤ v) (v1 : v ≤ 65535) (a0 : 0 ≤ a) (a1 : a ≤ 65535) : 0 ≤ scaled16 v a ∧ scaled16 v a ≤ 65535 := by
  have b := mul_bd v0 v1 a0 a1
  unfold scaled16
  omega
theorem scaled8_bd (v a : Int) (v0 : 0 ≤ v) (v1 : v ≤ 255) (a0 : 0 ≤ a) (a1 : a ≤ 255) : 0 ≤ scaled8 v a ∧ scaled8 v a ≤ 65535 := by
  have b := mul_bd v0 v1 a0 a1
  unfold scaled8
  omega

/-! ## Inks -/
theorem inkOf_alone (a : Int) (a0 : 0 ≤ a) (a1 : a ≤ 255) : inkOf a 0 = 255 - a := by
  unfold inkOf ink16
  omega
theorem inkOf_black (a : Int) (a0 : 0 ≤ a) (a1 : a ≤ 255) : inkOf 0 a = 255 - a := by
  unfold inkOf ink16
  omega
theorem inkOf_near (c k : Int) (c0 : 0 ≤ c) (c1 : c ≤ 255) (k0 : 0 ≤ k) (k1 : k ≤ 255) : (255 - c) * (255 - k) - 255 * inkOf c k < 255 ∧ -255 < (255 - c) * (255 - k) - 255 * inkOf c k := by
  have b := mul_bd (x := 255 - c) (y := 255 - k) (A := 255) (B := 255) (by omega) (by omega) (by omega) (by omega)
  unfold inkOf ink16
  generalize (255 - c) * (255 - k) = p at b
  omega
theorem scaled_ink (c k : Int) : scaled16 (257 * (255 - c)) (257 * (255 - k)) = ink16 c k := by
  unfold scaled16 ink16
  rw [mul_257]
  omega
theorem scaled_wide (v a : Int) : scaled16 (257 * v) (257 * a) = scaled8 v a := by
  unfold scaled16 scaled8
  rw [mul_257]
  omega

/-! ## There and back -/
theorem cb_spec (r g b : Int) (r0 : 0 ≤ r) (r1 : r ≤ 255) (g0 : 0 ≤ g) (g1 : g ≤ 255) (b0 : 0 ≤ b) (b1 : b ≤ 255) :
    65536 * cbOf r g b ≤ -11056 * r - 21712 * g + 32768 * b + 8421376 ∧ -11056 * r - 21712 * g + 32768 * b + 8421376 ≤ 65536 * cbOf r g b + 65536 := by
  unfold cbOf clip8
  split
  · omega
  · split <;> omega
theorem cr_spec (r g b : Int) (r0 : 0 ≤ r) (r1 : r ≤ 255) (g0 : 0 ≤ g) (g1 : g ≤ 255) (b0 : 0 ≤ b) (b1 : b ≤ 255) :
    65536 * crOf r g b ≤ 32768 * r - 27440 * g - 5328 * b + 8421376 ∧ 32768 * r - 27440 * g - 5328 * b + 8421376 ≤ 65536 * crOf r g b + 65536 := by
  unfold crOf clip8
  split
  · omega
  · split <;> omega
theorem luma_spec (r g b : Int) : 65536 * luma r g b ≤ 19595 * r + 38470 * g + 7471 * b + 32768 ∧ 19595 * r + 38470 * g + 7471 * b + 32768 ≤ 65536 * luma r g b + 65535 := by
  unfold luma; omega

/-- A clip is near to v if what is clipped is, for v from 0 to 255. -/
theorem clip8_near (x v : Int) (v0 : 0 ≤ v) (v1 : v ≤ 255) (h0 : 65536 * v - 131072 ≤ x) (h1 : x < 65536 * v + 196608) : clip8 x - v ≤ 2 ∧ v - clip8 x ≤ 2 := by
  unfold clip8
  split
  · omega
  · split <;> omega

theorem back_red (r g b : Int) (r0 : 0 ≤ r) (r1 : r ≤ 255) (g0 : 0 ≤ g) (g1 : g ≤ 255) (b0 : 0 ≤ b) (b1 : b ≤ 255) :
    redOf (luma r g b) (crOf r g b) - r ≤ 2 ∧ r - redOf (luma r g b) (crOf r g b) ≤ 2 := by
  have hy := luma_spec r g b
  have hr := cr_spec r g b r0 r1 g0 g1 b0 b1
  have hb := luma_bd r g b r0 r1 g0 g1 b0 b1
  unfold redOf
  refine clip8_near _ r r0 r1 ?_ ?_
  · unfold redX; generalize luma r g b = y at *; generalize crOf r g b = c at *; omega
  · unfold redX; generalize luma r g b = y at *; generalize crOf r g b = c at *; omega
theorem back_blue (r g b : Int) (r0 : 0 ≤ r) (r1 : r ≤ 255) (g0 : 0 ≤ g) (g1 : g ≤ 255) (b0 : 0 ≤ b) (b1 : b ≤ 255) :
    blueOf (luma r g b) (cbOf r g b) - b ≤ 2 ∧ b - blueOf (luma r g b) (cbOf r g b) ≤ 2 := by
  have hy := luma_spec r g b
  have hr := cb_spec r g b r0 r1 g0 g1 b0 b1
  have hb := luma_bd r g b r0 r1 g0 g1 b0 b1
  unfold blueOf
  refine clip8_near _ b b0 b1 ?_ ?_
  · unfold blueX; generalize luma r g b = y at *; generalize cbOf r g b = c at *; omega
  · unfold blueX; generalize luma r g b = y at *; generalize cbOf r g b = c at *; omega
theorem back_green (r g b : Int) (r0 : 0 ≤ r) (r1 : r ≤ 255) (g0 : 0 ≤ g) (g1 : g ≤ 255) (b0 : 0 ≤ b) (b1 : b ≤ 255) :
    greenOf (luma r g b) (cbOf r g b) (crOf r g b) - g ≤ 2 ∧ g - greenOf (luma r g b) (cbOf r g b) (crOf r g b) ≤ 2 := by
  have hy := luma_spec r g b
  have hr := cr_spec r g b r0 r1 g0 g1 b0 b1
  have hs := cb_spec r g b r0 r1 g0 g1 b0 b1
  have hb := luma_bd r g b r0 r1 g0 g1 b0 b1
  unfold greenOf
  refine clip8_near _ g g0 g1 ?_ ?_
  · unfold greenX; generalize luma r g b = y at *; generalize crOf r g b = c at *; generalize cbOf r g b = d at *; omega
  · unfold greenX; generalize luma r g b = y at *; generalize crOf r g b = c at *; generalize cbOf r g b = d at *; omega

/-! ## Scaled values -/
theorem mul_mono {x y a b : Int} (x0 : 0 ≤ x) (h : x ≤ y) (a0 : 0 ≤ a) (k : a ≤ b) : x * a ≤ y * b := Int.mul_le_mul h k a0 (by omega)
theorem scaled8_mono {v u a b : Int} (v0 : 0 ≤ v) (h : v ≤ u) (a0 : 0 ≤ a) (k : a ≤ b) : scaled8 v a ≤ scaled8 u b := by
  have := mul_mono v0 h a0 k
  unfold scaled8
  generalize v * a = p at *
  generalize u * b = q at *
  omega
theorem scaled16_below (v a : Int) (v0 : 0 ≤ v) (v1 : v ≤ 65535) (a0 : 0 ≤ a) : scaled16 v a ≤ a := by
  have := mul_mono v0 v1 a0 (Int.le_refl a)
  unfold scaled16
  generalize v * a = p at *
  omega
theorem scaled16_near (v a : Int) : v * a - 65535 * scaled16 v a < 65535 ∧ -65535 < v * a - 65535 * scaled16 v a := by
  unfold scaled16
  generalize v * a = p
  omega
theorem scaled16_full (v : Int) : scaled16 v 65535 = v := by unfold scaled16; omega
theorem scaled8_full (v : Int) : scaled8 v 255 = 257 * v := by unfold scaled8; omega
theorem scaled8_zero (v : Int) : scaled8 v 0 = 0 := by unfold scaled8; omega
theorem scaled8_near (v a : Int) : 257 * (v * a) - 255 * scaled8 v a < 255 ∧ -255 < 257 * (v * a) - 255 * scaled8 v a := by
  unfold scaled8
  generalize v * a = p
  omega
theorem scaled8_below (v a : Int) (v0 : 0 ≤ v) (v1 : v ≤ 255) (a0 : 0 ≤ a) : scaled8 v a ≤ 257 * a := by
  have := mul_mono v0 v1 a0 (Int.le_refl a)
  unfold scaled8
  generalize v * a = p at *
  omega
theorem scaled8_comm (v a : Int) : scaled8 v a = scaled8 a v := by unfold scaled8; rw [Int.mul_comm v a]
theorem clip_top (x : Int) : clip16 x / 256 = clip8 x := by
  unfold clip16 clip8
  split
  · omega
  · split <;> omega

/-! ## Inks of a colour -/
theorem cyan_bright (v : Int) : cyanOf v 255 = 255 - v := by unfold cyanOf; rw [if_neg (by omega)]; omega
theorem most_self (a : Int) : most a a a = a := by unfold most; omega
theorem most_bright (b c : Int) (b1 : b ≤ 255) (c1 : c ≤ 255) : most 255 b c = 255 := by unfold most; omega

theorem cyan_share (v w : Int) (w0 : 0 < w) : 0 ≤ 255 * (w - v) - cyanOf v w * w ∧ 255 * (w - v) - cyanOf v w * w < w := by
  unfold cyanOf
  rw [if_neg (by omega)]
  have h := Int.emod_add_mul_ediv ((w - v) * 255) w
  have h1 := Int.emod_nonneg ((w - v) * 255) (show w ≠ 0 by omega)
  have h2 := Int.emod_lt_of_pos ((w - v) * 255) w0
  rw [Int.mul_comm w] at h
  generalize (w - v) * 255 / w * w = p at *
  generalize (w - v) * 255 % w = q at *
  omega
theorem ink_back (v w : Int) (v0 : 0 ≤ v) (v1 : v ≤ w) (w1 : w ≤ 255) : inkOf (cyanOf v w) (255 - w) = v ∨ inkOf (cyanOf v w) (255 - w) = v + 1 := by
  by_cases hz : w = 0
  · subst hz
    obtain rfl : v = 0 := by omega
    exact .inl (by decide +kernel)
  · have hs := cyan_share v w (by omega)
    unfold inkOf ink16
    rw [show 255 - (255 - w) = w by omega]
    have e : (255 - cyanOf v w) * w = 255 * w - cyanOf v w * w := by rw [Int.sub_mul]
    rw [e]
    generalize cyanOf v w * w = p at *
    omega
theorem ink_grey (a : Int) (a0 : 0 ≤ a) (a1 : a ≤ 255) : inkOf 0 (255 - a) = a := by rw [inkOf_black _ (by omega) (by omega)]; omega

/-! ## Luma and chroma -/
theorem clip8_mono {x y : Int} (h : x ≤ y) : clip8 x ≤ clip8 y := by
  unfold clip8
  split <;> split <;> (try split) <;> (try split) <;> omega
theorem clip16_mono {x y : Int} (h : x ≤ y) : clip16 x ≤ clip16 y := by
  unfold clip16
  split <;> split <;> (try split) <;> (try split) <;> omega
theorem luma_mono {r g b r' g' b' : Int} (h1 : r ≤ r') (h2 : g ≤ g') (h3 : b ≤ b') : luma r g b ≤ luma r' g' b' := by unfold luma; omega
theorem cb_mono {r g b r' g' b' : Int} (h1 : r' ≤ r) (h2 : g' ≤ g) (h3 : b ≤ b') : cbOf r g b ≤ cbOf r' g' b' := clip8_mono (by omega)
theorem cr_mono {r g b r' g' b' : Int} (h1 : r ≤ r') (h2 : g' ≤ g) (h3 : b' ≤ b) : crOf r g b ≤ crOf r' g' b' := clip8_mono (by omega)
theorem luma_between {r g b n m : Int} (h1 : n ≤ r) (h2 : n ≤ g) (h3 : n ≤ b) (k1 : r ≤ m) (k2 : g ≤ m) (k3 : b ≤ m) : n ≤ luma r g b ∧ luma r g b ≤ m := by unfold luma; omega
theorem luma_grey (a : Int) : luma a a a = a := by unfold luma; omega
theorem cb_grey (a : Int) : cbOf a a a = 128 := by unfold cbOf clip8; rw [if_neg (by omega), if_pos (by omega)]; omega
theorem cr_grey (a : Int) : crOf a a a = 128 := by unfold crOf clip8; rw [if_neg (by omega), if_pos (by omega)]; omega

/-- What differs by at most 0.509 is the nearest whole number, where this is clear. -/
theorem nearest_of (v y : Int) (h1 : 100000 * v - y ≤ 50900) (h2 : y - 100000 * v ≤ 50900) (k : y % 100000 < 49000 ∨ 51000 < y % 100000) : v = (y + 50000) / 100000 := by
  rcases k with k | k
  · have e : (y + 50000) / 100000 = y / 100000 := by omega
    rw [e]
    omega
  · have e : (y + 50000) / 100000 = y / 100000 + 1 := by omega
    rw [e]
    omega
theorem luma_close (r g b : Int) (r0 : 0 ≤ r) (r1 : r ≤ 255) (g0 : 0 ≤ g) (g1 : g ≤ 255) (b0 : 0 ≤ b) (b1 : b ≤ 255) :
    off (luma r g b) (29900 * r + 58700 * g + 11400 * b) ≤ 51000 ∧ ((29900 * r + 58700 * g + 11400 * b) % 100000 < 49000 ∨ 51000 < (29900 * r + 58700 * g + 11400 * b) % 100000 → luma r g b = (29900 * r + 58700 * g + 11400 * b + 50000) / 100000) := by
  have h := luma_spec r g b
  generalize luma r g b = y at *
  have k1 : 100000 * y - (29900 * r + 58700 * g + 11400 * b) ≤ 50900 := by omega
  have k2 : (29900 * r + 58700 * g + 11400 * b) - 100000 * y ≤ 50900 := by omega
  exact ⟨off_le (by omega) (by omega), fun k => nearest_of _ _ k1 k2 k⟩
/-- A clipped chroma is near to the clamped number of parts if both come of nearly the same number. -/
theorem clip_close (x y : Int) (h0 : 0 ≤ x) (h1 : x ≤ 16777216) (k0 : 65536 * y ≤ 100000 * (x - 32768) + 65536 * 900) (k1 : 100000 * (x - 32768) ≤ 65536 * y + 65536 * 900) :
    off (clip8 x) (clamp y) ≤ 51000 ∧ (clamp y % 100000 < 49000 ∨ 51000 < clamp y % 100000 → clip8 x = (clamp y + 50000) / 100000) := by
  have a : 100000 * clip8 x - clamp y ≤ 50900 := by
    unfold clip8 clamp
    rw [if_neg (by omega)]
    split
    · split
      · omega
      · split <;> omega
    · split
      · omega
      · split <;> omega
  have b : clamp y - 100000 * clip8 x ≤ 50900 := by
    unfold clip8 clamp
    rw [if_neg (c := x < 0) (by omega)]
    clear a
    (repeat' split) <;> omega
  exact ⟨off_le (by omega) (by omega), fun k => nearest_of _ _ a b k⟩
theorem cb_close (r g b : Int) (r0 : 0 ≤ r) (r1 : r ≤ 255) (g0 : 0 ≤ g) (g1 : g ≤ 255) (b0 : 0 ≤ b) (b1 : b ≤ 255) :
    off (cbOf r g b) (clamp (-16870 * r - 33130 * g + 50000 * b + 12800000)) ≤ 51000 ∧ (clamp (-16870 * r - 33130 * g + 50000 * b + 12800000) % 100000 < 49000 ∨ 51000 < clamp (-16870 * r - 33130 * g + 50000 * b + 12800000) % 100000 → cbOf r g b = (clamp (-16870 * r - 33130 * g + 50000 * b + 12800000) + 50000) / 100000) :=
  clip_close _ _ (by omega) (by omega) (by omega) (by omega)
theorem cr_close (r g b : Int) (r0 : 0 ≤ r) (r1 : r ≤ 255) (g0 : 0 ≤ g) (g1 : g ≤ 255) (b0 : 0 ≤ b) (b1 : b ≤ 255) :
    off (crOf r g b) (clamp (50000 * r - 41870 * g - 8130 * b + 12800000)) ≤ 51000 ∧ (clamp (50000 * r - 41870 * g - 8130 * b + 12800000) % 100000 < 49000 ∨ 51000 < clamp (50000 * r - 41870 * g - 8130 * b + 12800000) % 100000 → crOf r g b = (clamp (50000 * r - 41870 * g - 8130 * b + 12800000) + 50000) / 100000) :=
  clip_close _ _ (by omega) (by omega) (by omega) (by omega)

/-! ## Back to red, green and blue -/
theorem near8 (x y : Int) (h0 : -58982400 ≤ 100000 * x - 65536 * y) (h1 : 100000 * x - 65536 * y ≤ 6612582400) : off (clip8 x) (clamp y) ≤ 101000 := by
  unfold clip8 clamp
  refine off_le ?_ ?_
  · split
    · split
      · omega
      · split <;> omega
    · split
      · split
        · omega
        · split <;> omega
      · split
        · omega
        · split <;> omega
  · split
    · split
      · omega
      · split <;> omega
    · split
      · split
        · omega
        · split <;> omega
      · split
        · omega
        · split <;> omega
theorem near16 (x y : Int) (h0 : -5900000000 ≤ 100000 * x - 65792 * y) (h1 : 100000 * x - 65792 * y ≤ 5900000000) : off (clip16 x) (257 * clamp y) ≤ 26000000 := by
  unfold clip16 clamp
  refine off_le ?_ ?_
  · split
    · split
      · omega
      · split <;> omega
    · split
      · split
        · omega
        · split <;> omega
      · split
        · omega
        · split <;> omega
  · split
    · split
      · omega
      · split <;> omega
    · split
      · split
        · omega
        · split <;> omega
      · split
        · omega
        · split <;> omega
theorem red_exact (y cr : Int) (y0 : 0 ≤ y) (y1 : y ≤ 255) (r0 : 0 ≤ cr) (r1 : cr ≤ 255) : off (redOf y cr) (clamp (100000 * y + 140200 * (cr - 128))) ≤ 101000 :=
  near8 _ _ (by unfold redX; omega) (by unfold redX; omega)
theorem green_exact (y cb cr : Int) (y0 : 0 ≤ y) (y1 : y ≤ 255) (b0 : 0 ≤ cb) (b1 : cb ≤ 255) (r0 : 0 ≤ cr) (r1 : cr ≤ 255) : off (greenOf y cb cr) (clamp (100000 * y - 34414 * (cb - 128) - 71414 * (cr - 128))) ≤ 101000 :=
  near8 _ _ (by unfold greenX; omega) (by unfold greenX; omega)
theorem blue_exact (y cb : Int) (y0 : 0 ≤ y) (y1 : y ≤ 255) (r0 : 0 ≤ cb) (r1 : cb ≤ 255) : off (blueOf y cb) (clamp (100000 * y + 177200 * (cb - 128))) ≤ 101000 :=
  near8 _ _ (by unfold blueX; omega) (by unfold blueX; omega)
theorem red_near (y cr : Int) (y0 : 0 ≤ y) (y1 : y ≤ 255) (r0 : 0 ≤ cr) (r1 : cr ≤ 255) : off (red16 y cr) (257 * clamp (100000 * y + 140200 * (cr - 128))) ≤ 26000000 :=
  near16 _ _ (by unfold redX; omega) (by unfold redX; omega)
theorem green_near (y cb cr : Int) (y0 : 0 ≤ y) (y1 : y ≤ 255) (b0 : 0 ≤ cb) (b1 : cb ≤ 255) (r0 : 0 ≤ cr) (r1 : cr ≤ 255) : off (green16 y cb cr) (257 * clamp (100000 * y - 34414 * (cb - 128) - 71414 * (cr - 128))) ≤ 26000000 :=
  near16 _ _ (by unfold greenX; omega) (by unfold greenX; omega)
theorem blue_near (y cb : Int) (y0 : 0 ≤ y) (y1 : y ≤ 255) (r0 : 0 ≤ cb) (r1 : cb ≤ 255) : off (blue16 y cb) (257 * clamp (100000 * y + 177200 * (cb - 128))) ≤ 26000000 :=
  near16 _ _ (by unfold blueX; omega) (by unfold blueX; omega)
theorem red_mono {y cr y' cr' : Int} (h : y ≤ y') (k : cr ≤ cr') : redOf y cr ≤ redOf y' cr' := clip8_mono (by unfold redX; omega)
theorem green_mono {y cb cr y' cb' cr' : Int} (h : y ≤ y') (k : cb' ≤ cb) (l : cr' ≤ cr) : greenOf y cb cr ≤ greenOf y' cb' cr' := clip8_mono (by unfold greenX; omega)
theorem blue_mono {y cb y' cb' : Int} (h : y ≤ y') (k : cb ≤ cb') : blueOf y cb ≤ blueOf y' cb' := clip8_mono (by unfold blueX; omega)
theorem clip_grey (a : Int) (a0 : 0 ≤ a) (a1 : a ≤ 255) : clip8 (a * 65793) = a := by unfold clip8; rw [if_neg (by omega), if_pos (by omega)]; omega
theorem clip16_grey (a : Int) (a0 : 0 ≤ a) (a1 : a ≤ 255) : clip16 (a * 65793) = 257 * a := by unfold clip16; rw [if_neg (by omega), if_pos (by omega)]; omega
theorem red_grey (a : Int) (a0 : 0 ≤ a) (a1 : a ≤ 255) : redOf a 128 = a := by
  have : redX a 128 = a * 65793 := by unfold redX; omega
  unfold redOf; rw [this]; exact clip_grey a a0 a1
theorem green_grey (a : Int) (a0 : 0 ≤ a) (a1 : a ≤ 255) : greenOf a 128 128 = a := by
  have : greenX a 128 128 = a * 65793 := by unfold greenX; omega
  unfold greenOf; rw [this]; exact clip_grey a a0 a1
theorem blue_grey (a : Int) (a0 : 0 ≤ a) (a1 : a ≤ 255) : blueOf a 128 = a := by
  have : blueX a 128 = a * 65793 := by unfold blueX; omega
  unfold blueOf; rw [this]; exact clip_grey a a0 a1
theorem red16_grey (a : Int) (a0 : 0 ≤ a) (a1 : a ≤ 255) : red16 a 128 = 257 * a := by
  have : redX a 128 = a * 65793 := by unfold redX; omega
  unfold red16; rw [this]; exact clip16_grey a a0 a1
theorem green16_grey (a : Int) (a0 : 0 ≤ a) (a1 : a ≤ 255) : green16 a 128 128 = 257 * a := by
  have : greenX a 128 128 = a * 65793 := by unfold greenX; omega
  unfold green16; rw [this]; exact clip16_grey a a0 a1
theorem blue16_grey (a : Int) (a0 : 0 ≤ a) (a1 : a ≤ 255) : blue16 a 128 = 257 * a := by
  have : blueX a 128 = a * 65793 := by unfold blueX; omega
  unfold blue16; rw [this]; exact clip16_grey a a0 a1
theorem red_sides (y cr : Int) (y0 : 0 ≤ y) (y1 : y ≤ 255) : (cr < 128 ∨ y ≤ redOf y cr) ∧ (128 < cr ∨ redOf y cr ≤ y) := by
  have g := red_grey y y0 y1
  refine ⟨?_, ?_⟩
  · by_cases h : cr < 128
    · exact .inl h
    · have := red_mono (y := y) (y' := y) (cr := 128) (cr' := cr) (Int.le_refl _) (by omega)
      exact .inr (by omega)
  · by_cases h : 128 < cr
    · exact .inl h
    · have := red_mono (y := y) (y' := y) (cr := cr) (cr' := 128) (Int.le_refl _) (by omega)
      exact .inr (by omega)
theorem blue_sides (y cb : Int) (y0 : 0 ≤ y) (y1 : y ≤ 255) : (cb < 128 ∨ y ≤ blueOf y cb) ∧ (128 < cb ∨ blueOf y cb ≤ y) := by
  have g := blue_grey y y0 y1
  refine ⟨?_, ?_⟩
  · by_cases h : cb < 128
    · exact .inl h
    · have := blue_mono (y := y) (y' := y) (cb := 128) (cb' := cb) (Int.le_refl _) (by omega)
      exact .inr (by omega)
  · by_cases h : 128 < cb
    · exact .inl h
    · have := blue_mono (y := y) (y' := y) (cb := cb) (cb' := 128) (Int.le_refl _) (by omega)
      exact .inr (by omega)

/-! ## More of inks and of scaled values -/
theorem ink16_comm (c k : Int) : ink16 c k = ink16 k c := by unfold ink16; rw [Int.mul_comm (255 - c) (255 - k)]
theorem inkOf_comm (c k : Int) : inkOf c k = inkOf k c := by unfold inkOf; rw [ink16_comm]
theorem inkOf_anti {c k c' k' : Int} (c1 : c' ≤ 255) (h : c ≤ c') (k1 : k' ≤ 255) (l : k ≤ k') : inkOf c' k' ≤ inkOf c k := by
  have := mul_mono (x := 255 - c') (y := 255 - c) (a := 255 - k') (b := 255 - k) (by omega) (by omega) (by omega) (by omega)
  unfold inkOf ink16
  generalize (255 - c') * (255 - k') = p at *
  generalize (255 - c) * (255 - k) = q at *
  omega
theorem cyan_anti {u v w : Int} (w1 : 0 ≤ w) (h : u ≤ v) : cyanOf v w ≤ cyanOf u w := by
  unfold cyanOf
  split
  · omega
  · exact Int.ediv_le_ediv (by omega) (by omega)
theorem most_swap (a b c : Int) : most b a c = most a b c := by unfold most; omega
theorem most_turn (a b c : Int) : most c b a = most a b c := by unfold most; omega
theorem scaled8_down (v a : Int) (v0 : 0 ≤ v) (v1 : v ≤ 255) (a0 : 0 ≤ a) (a1 : a ≤ 255) : ∃ p : Int, 257 * v * a = p ∧ 0 ≤ p ∧ p ≤ 16711425 ∧ 255 * scaled8 v a ≤ p := by
  have b := mul_bd v0 v1 a0 a1
  refine ⟨_, rfl, ?_⟩
  unfold scaled8
  rw [Int.mul_assoc]
  generalize v * a = p at *
  omega
theorem scaled8_white (a : Int) : scaled8 255 a = 257 * a := by rw [scaled8_comm, scaled8_full]
theorem scaled16_white (a : Int) : scaled16 65535 a = a := by unfold scaled16; omega

theorem cyan_none {v w : Int} (h : v ≤ w) (k : w ≤ v) : cyanOf v w = 0 := by
  obtain rfl : v = w := by omega
  exact cyan_self v

end Go.Proofs.Ytfpngemkifhchaa.Col
