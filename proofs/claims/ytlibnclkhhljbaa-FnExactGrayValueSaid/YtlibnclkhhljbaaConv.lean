/-
  The walks over the conversions of image/color: CMYKToRGB, RGBToCMYK, RGBToYCbCr, YCbCrToRGB and the thin package's functions over them: what each returns; the memory stays as it is.
-/
import Derived.Test.YtlibnclkhhljbaaVal
namespace Go.Proofs.Ytlibnclkhhljbaa
open Go.RowKit

theorem cmykToRGB_call (w : World) (c m y k : Int) (_c0 : 0 ≤ c) (_c1 : c ≤ 255) (_m0 : 0 ≤ m) (_m1 : m ≤ 255) (_y0 : 0 ≤ y) (_y1 : y ≤ 255) (_k0 : 0 ≤ k) (_k1 : k ≤ 255) :
    Calls Try.prog 43 #[.int .u8 c, .int .u8 m, .int .u8 y, .int .u8 k] w fun e w' => e = .returned (.tuple #[.int .u8 (Col.inkOf c k), .int .u8 (Col.inkOf m k), .int .u8 (Col.inkOf y k)]) ∧ w = w' := by
  go_enter Try.func43, Try.ntmps43
  go_wp2
  go_ret3
  exact ⟨ret3 (Col.ink_eq8 c k _c0 _c1 _k0 _k1) (Col.ink_eq8 m k _m0 _m1 _k0 _k1) (Col.ink_eq8 y k _y0 _y1 _k0 _k1), rfl⟩

set_option maxHeartbeats 1000000 in
theorem toYCbCr_call (w : World) (r g b : Int) (_r0 : 0 ≤ r) (_r1 : r ≤ 255) (_g0 : 0 ≤ g) (_g1 : g ≤ 255) (_b0 : 0 ≤ b) (_b1 : b ≤ 255) :
    Calls Try.prog 44 #[.int .u8 r, .int .u8 g, .int .u8 b] w fun e w' => e = .returned (.tuple #[.int .u8 (Col.luma r g b), .int .u8 (Col.cbOf r g b), .int .u8 (Col.crOf r g b)]) ∧ w = w' := by
  go_enter Try.func44, Try.ntmps44
  go_wp2
  all_goals go_ret3
  all_goals refine ⟨ret3 rfl ?_ ?_, rfl⟩
  all_goals first | exact Col.clip8_in (Col.mask_true' (by omega) (by omega) (by assumption)) | exact Col.clip8_out (by omega) (by omega) (Col.mask_false' (by omega) (by omega) (by assumption)) | skip

set_option maxHeartbeats 1000000 in
theorem toRGB_call (w : World) (y cb cr : Int) (_y0 : 0 ≤ y) (_y1 : y ≤ 255) (_cb0 : 0 ≤ cb) (_cb1 : cb ≤ 255) (_cr0 : 0 ≤ cr) (_cr1 : cr ≤ 255) :
    Calls Try.prog 45 #[.int .u8 y, .int .u8 cb, .int .u8 cr] w fun e w' => e = .returned (.tuple #[.int .u8 (Col.redOf y cr), .int .u8 (Col.greenOf y cb cr), .int .u8 (Col.blueOf y cb)]) ∧ w = w' := by
  go_enter Try.func45, Try.ntmps45
  go_wp2
  all_goals go_ret3
  all_goals refine ⟨ret3 ?_ ?_ ?_, rfl⟩
  all_goals first | exact Col.clip8_in (Col.mask_true (by omega) (by omega) (by assumption)) | exact Col.clip8_out (by omega) (by omega) (Col.mask_false (by assumption))

theorem cmykToRGB_any (w : World) (c m y k : Int) (_c0 : 0 ≤ c) (_c1 : c ≤ 255) (_m0 : 0 ≤ m) (_m1 : m ≤ 255) (_y0 : 0 ≤ y) (_y1 : y ≤ 255) (_k0 : 0 ≤ k) (_k1 : k ≤ 255) :
    Calls Try.prog 25 #[.int .u8 c, .int .u8 m, .int .u8 y, .int .u8 k] w fun e w' => e = .returned (.tuple #[.int .u8 (Col.inkOf c k), .int .u8 (Col.inkOf m k), .int .u8 (Col.inkOf y k)]) ∧ w = w' := by
  go_enter Try.func25, Try.ntmps25
  go_wp2_with fail
  refine (cmykToRGB_call w c m y k _c0 _c1 _m0 _m1 _y0 _y1 _k0 _k1).mono ?_
  rintro e w1 ⟨rfl, rfl⟩
  go_wp2
  go_ret3
  exact ⟨rfl, rfl⟩

theorem toYCbCr_any (w : World) (r g b : Int) (_r0 : 0 ≤ r) (_r1 : r ≤ 255) (_g0 : 0 ≤ g) (_g1 : g ≤ 255) (_b0 : 0 ≤ b) (_b1 : b ≤ 255) :
    Calls Try.prog 28 #[.int .u8 r, .int .u8 g, .int .u8 b] w fun e w' => e = .returned (.tuple #[.int .u8 (Col.luma r g b), .int .u8 (Col.cbOf r g b), .int .u8 (Col.crOf r g b)]) ∧ w = w' := by
  go_enter Try.func28, Try.ntmps28
  go_wp2_with fail
  refine (toYCbCr_call w r g b _r0 _r1 _g0 _g1 _b0 _b1).mono ?_
  rintro e w1 ⟨rfl, rfl⟩
  go_wp2
  go_ret3
  exact ⟨rfl, rfl⟩

theorem toRGB_any (w : World) (y cb cr : Int) (_y0 : 0 ≤ y) (_y1 : y ≤ 255) (_cb0 : 0 ≤ cb) (_cb1 : cb ≤ 255) (_cr0 : 0 ≤ cr) (_cr1 : cr ≤ 255) :
    Calls Try.prog 29 #[.int .u8 y, .int .u8 cb, .int .u8 cr] w fun e w' => e = .returned (.tuple #[.int .u8 (Col.redOf y cr), .int .u8 (Col.greenOf y cb cr), .int .u8 (Col.blueOf y cb)]) ∧ w = w' := by
  go_enter Try.func29, Try.ntmps29
  go_wp2_with fail
  refine (toRGB_call w y cb cr _y0 _y1 _cb0 _cb1 _cr0 _cr1).mono ?_
  rintro e w1 ⟨rfl, rfl⟩
  go_wp2
  go_ret3
  exact ⟨rfl, rfl⟩



end Go.Proofs.Ytlibnclkhhljbaa
