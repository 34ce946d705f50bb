/-
  The walks over the conversions of image/color: CMYKToRGB, RGBToCMYK, RGBToYCbCr, YCbCrToRGB and the thin package's functions over them: what each returns; the memory stays as it is.
-/
import Derived.Test.YtpjplkgfbjfokaaVal
namespace Go.Proofs.Ytpjplkgfbjfokaa
open Go.RowKit


set_option maxHeartbeats 1000000 in
theorem toYCbCr_call (w : World) (r g b : Int) (_r0 : 0 ≤ r) (_r1 : r ≤ 255) (_g0 : 0 ≤ g) (_g1 : g ≤ 255) (_b0 : 0 ≤ b) (_b1 : b ≤ 255) :
    Calls Try.prog 15 #[.int .u8 r, .int .u8 g, .int .u8 b] w fun e w' => e = .returned (.tuple #[.int .u8 (Col.luma r g b), .int .u8 (Col.cbOf r g b), .int .u8 (Col.crOf r g b)]) ∧ w = w' := by
  go_enter Try.func15, Try.ntmps15
  go_wp2
  all_goals go_ret3
  all_goals refine ⟨ret3 rfl ?_ ?_, rfl⟩
  all_goals first | exact Col.clip8_in (Col.mask_true' (by omega) (by omega) (by assumption)) | exact Col.clip8_out (by omega) (by omega) (Col.mask_false' (by omega) (by omega) (by assumption)) | skip

set_option maxHeartbeats 1000000 in
theorem toRGB_call (w : World) (y cb cr : Int) (_y0 : 0 ≤ y) (_y1 : y ≤ 255) (_cb0 : 0 ≤ cb) (_cb1 : cb ≤ 255) (_cr0 : 0 ≤ cr) (_cr1 : cr ≤ 255) :
    Calls Try.prog 13 #[.int .u8 y, .int .u8 cb, .int .u8 cr] w fun e w' => e = .returned (.tuple #[.int .u8 (Col.redOf y cr), .int .u8 (Col.greenOf y cb cr), .int .u8 (Col.blueOf y cb)]) ∧ w = w' := by
  go_enter Try.func13, Try.ntmps13
  go_wp2
  all_goals go_ret3
  all_goals refine ⟨ret3 ?_ ?_ ?_, rfl⟩
  all_goals first | exact Col.clip8_in (Col.mask_true (by omega) (by omega) (by assumption)) | exact Col.clip8_out (by omega) (by omega) (Col.mask_false (by assumption))


theorem toYCbCr_any (w : World) (r g b : Int) (_r0 : 0 ≤ r) (_r1 : r ≤ 255) (_g0 : 0 ≤ g) (_g1 : g ≤ 255) (_b0 : 0 ≤ b) (_b1 : b ≤ 255) :
    Calls Try.prog 10 #[.int .u8 r, .int .u8 g, .int .u8 b] w fun e w' => e = .returned (.tuple #[.int .u8 (Col.luma r g b), .int .u8 (Col.cbOf r g b), .int .u8 (Col.crOf r g b)]) ∧ w = w' := by
  go_enter Try.func10, Try.ntmps10
  go_wp2_with fail
  refine (toYCbCr_call w r g b _r0 _r1 _g0 _g1 _b0 _b1).mono ?_
  rintro e w1 ⟨rfl, rfl⟩
  go_wp2
  go_ret3
  exact ⟨rfl, rfl⟩

theorem toRGB_any (w : World) (y cb cr : Int) (_y0 : 0 ≤ y) (_y1 : y ≤ 255) (_cb0 : 0 ≤ cb) (_cb1 : cb ≤ 255) (_cr0 : 0 ≤ cr) (_cr1 : cr ≤ 255) :
    Calls Try.prog 7 #[.int .u8 y, .int .u8 cb, .int .u8 cr] w fun e w' => e = .returned (.tuple #[.int .u8 (Col.redOf y cr), .int .u8 (Col.greenOf y cb cr), .int .u8 (Col.blueOf y cb)]) ∧ w = w' := by
  go_enter Try.func7, Try.ntmps7
  go_wp2_with fail
  refine (toRGB_call w y cb cr _y0 _y1 _cb0 _cb1 _cr0 _cr1).mono ?_
  rintro e w1 ⟨rfl, rfl⟩
  go_wp2
  go_ret3
  exact ⟨rfl, rfl⟩



theorem alive_any (w : World) : Calls Try.prog 8 #[] w fun e w' => e = .returned (.bool true) ∧ w = w' := by
  have h : Col.luma 255 255 255 = 255 := by decide +kernel
  go_enter Try.func8, Try.ntmps8
  go_wp2_with fail
  refine (toYCbCr_any _ 255 255 255 (by omega) (by omega) (by omega) (by omega) (by omega) (by omega)).mono ?_
  rintro e w2 ⟨rfl, rfl⟩
  go_wp2
  go_ret
  exact ⟨rfl, rfl⟩

end Go.Proofs.Ytpjplkgfbjfokaa
