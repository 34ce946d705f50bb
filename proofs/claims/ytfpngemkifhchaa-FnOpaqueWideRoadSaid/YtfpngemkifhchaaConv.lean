/-
  The walks over the conversions of image/color: CMYKToRGB, RGBToCMYK, RGBToYCbCr, YCbCrToRGB and the thin package's functions over them: what each returns; the memory stays as it is.
-/
import Derived.Test.YtfpngemkifhchaaVal
namespace Go.Proofs.Ytfpngemkifhchaa
open Go.RowKit


set_option maxHeartbeats 1000000 in
theorem toYCbCr_call (w : World) (r g b : Int) (_r0 : 0 ≤ r) (_r1 : r ≤ 255) (_g0 : 0 ≤ g) (_g1 : g ≤ 255) (_b0 : 0 ≤ b) (_b1 : b ≤ 255) :
    Calls Try.prog 56 #[.int .u8 r, .int .u8 g, .int .u8 b] w fun e w' => e = .returned (.tuple #[.int .u8 (Col.luma r g b), .int .u8 (Col.cbOf r g b), .int .u8 (Col.crOf r g b)]) ∧ w = w' := by
  go_enter Try.func56, Try.ntmps56
  go_wp2
  all_goals go_ret3
  all_goals refine ⟨ret3 rfl ?_ ?_, rfl⟩
  all_goals first | exact Col.clip8_in (Col.mask_true' (by omega) (by omega) (by assumption)) | exact Col.clip8_out (by omega) (by omega) (Col.mask_false' (by omega) (by omega) (by assumption)) | skip

set_option maxHeartbeats 1000000 in
theorem toRGB_call (w : World) (y cb cr : Int) (_y0 : 0 ≤ y) (_y1 : y ≤ 255) (_cb0 : 0 ≤ cb) (_cb1 : cb ≤ 255) (_cr0 : 0 ≤ cr) (_cr1 : cr ≤ 255) :
    Calls Try.prog 49 #[.int .u8 y, .int .u8 cb, .int .u8 cr] w fun e w' => e = .returned (.tuple #[.int .u8 (Col.redOf y cr), .int .u8 (Col.greenOf y cb cr), .int .u8 (Col.blueOf y cb)]) ∧ w = w' := by
  go_enter Try.func49, Try.ntmps49
  go_wp2
  all_goals go_ret3
  all_goals refine ⟨ret3 ?_ ?_ ?_, rfl⟩
  all_goals first | exact Col.clip8_in (Col.mask_true (by omega) (by omega) (by assumption)) | exact Col.clip8_out (by omega) (by omega) (Col.mask_false (by assumption))


theorem toYCbCr_any (w : World) (r g b : Int) (_r0 : 0 ≤ r) (_r1 : r ≤ 255) (_g0 : 0 ≤ g) (_g1 : g ≤ 255) (_b0 : 0 ≤ b) (_b1 : b ≤ 255) :
    Calls Try.prog 41 #[.int .u8 r, .int .u8 g, .int .u8 b] w fun e w' => e = .returned (.tuple #[.int .u8 (Col.luma r g b), .int .u8 (Col.cbOf r g b), .int .u8 (Col.crOf r g b)]) ∧ w = w' := by
  go_enter Try.func41, Try.ntmps41
  go_wp2_with fail
  refine (toYCbCr_call w r g b _r0 _r1 _g0 _g1 _b0 _b1).mono ?_
  rintro e w1 ⟨rfl, rfl⟩
  go_wp2
  go_ret3
  exact ⟨rfl, rfl⟩

theorem toRGB_any (w : World) (y cb cr : Int) (_y0 : 0 ≤ y) (_y1 : y ≤ 255) (_cb0 : 0 ≤ cb) (_cb1 : cb ≤ 255) (_cr0 : 0 ≤ cr) (_cr1 : cr ≤ 255) :
    Calls Try.prog 28 #[.int .u8 y, .int .u8 cb, .int .u8 cr] w fun e w' => e = .returned (.tuple #[.int .u8 (Col.redOf y cr), .int .u8 (Col.greenOf y cb cr), .int .u8 (Col.blueOf y cb)]) ∧ w = w' := by
  go_enter Try.func28, Try.ntmps28
  go_wp2_with fail
  refine (toRGB_call w y cb cr _y0 _y1 _cb0 _cb1 _cr0 _cr1).mono ?_
  rintro e w1 ⟨rfl, rfl⟩
  go_wp2
  go_ret3
  exact ⟨rfl, rfl⟩

set_option maxHeartbeats 1000000 in
theorem toCMYK_r (w : World) (r g b : Int) (_r0 : 0 ≤ r) (_r1 : r ≤ 255) (_g0 : 0 ≤ g) (_g1 : g ≤ 255) (_b0 : 0 ≤ b) (_b1 : b ≤ 255) (_h1 : g ≤ r) (_h2 : b ≤ r) (_h3 : 0 < r) :
    Calls Try.prog 40 #[.int .u8 r, .int .u8 g, .int .u8 b] w fun e w' => e = .returned (.tuple #[.int .u8 (Col.cyanOf r (Col.most r g b)), .int .u8 (Col.cyanOf g (Col.most r g b)), .int .u8 (Col.cyanOf b (Col.most r g b)), .int .u8 (255 - Col.most r g b)]) ∧ w = w' := by
  have hz : (r == 0) = false := by simp; omega
  go_enter Try.func40, Try.ntmps40
  go_wp2
  ((try simp only [Exit.inBlock, Exit.then]); refine bodyPost_ret (results_tmp4 rfl _ _ _) rfl ?_)
  refine ⟨ret4 ?_ ?_ ?_ ?_, rfl⟩
  all_goals rw [show Col.most r g b = r by unfold Col.most; omega]
  all_goals first | exact Col.cyan_eq _ _ (by omega) (by omega) (by omega) | exact (Col.cyan_self _).symm | rfl

set_option maxHeartbeats 1000000 in
theorem toCMYK_g (w : World) (r g b : Int) (_r0 : 0 ≤ r) (_r1 : r ≤ 255) (_g0 : 0 ≤ g) (_g1 : g ≤ 255) (_b0 : 0 ≤ b) (_b1 : b ≤ 255) (_h1 : r < g) (_h2 : b ≤ g) :
    Calls Try.prog 40 #[.int .u8 r, .int .u8 g, .int .u8 b] w fun e w' => e = .returned (.tuple #[.int .u8 (Col.cyanOf r (Col.most r g b)), .int .u8 (Col.cyanOf g (Col.most r g b)), .int .u8 (Col.cyanOf b (Col.most r g b)), .int .u8 (255 - Col.most r g b)]) ∧ w = w' := by
  have hz : (g == 0) = false := by simp; omega
  go_enter Try.func40, Try.ntmps40
  go_wp2
  ((try simp only [Exit.inBlock, Exit.then]); refine bodyPost_ret (results_tmp4 rfl _ _ _) rfl ?_)
  refine ⟨ret4 ?_ ?_ ?_ ?_, rfl⟩
  all_goals rw [show Col.most r g b = g by unfold Col.most; omega]
  all_goals first | exact Col.cyan_eq _ _ (by omega) (by omega) (by omega) | exact (Col.cyan_self _).symm | rfl

set_option maxHeartbeats 1000000 in
theorem toCMYK_b1 (w : World) (r g b : Int) (_r0 : 0 ≤ r) (_r1 : r ≤ 255) (_g0 : 0 ≤ g) (_g1 : g ≤ 255) (_b0 : 0 ≤ b) (_b1 : b ≤ 255) (_h1 : r < g) (_h2 : g < b) :
    Calls Try.prog 40 #[.int .u8 r, .int .u8 g, .int .u8 b] w fun e w' => e = .returned (.tuple #[.int .u8 (Col.cyanOf r (Col.most r g b)), .int .u8 (Col.cyanOf g (Col.most r g b)), .int .u8 (Col.cyanOf b (Col.most r g b)), .int .u8 (255 - Col.most r g b)]) ∧ w = w' := by
  have hz : (b == 0) = false := by simp; omega
  go_enter Try.func40, Try.ntmps40
  go_wp2
  ((try simp only [Exit.inBlock, Exit.then]); refine bodyPost_ret (results_tmp4 rfl _ _ _) rfl ?_)
  refine ⟨ret4 ?_ ?_ ?_ ?_, rfl⟩
  all_goals rw [show Col.most r g b = b by unfold Col.most; omega]
  all_goals first | exact Col.cyan_eq _ _ (by omega) (by omega) (by omega) | exact (Col.cyan_self _).symm | rfl

set_option maxHeartbeats 1000000 in
theorem toCMYK_b2 (w : World) (r g b : Int) (_r0 : 0 ≤ r) (_r1 : r ≤ 255) (_g0 : 0 ≤ g) (_g1 : g ≤ 255) (_b0 : 0 ≤ b) (_b1 : b ≤ 255) (_h1 : g ≤ r) (_h2 : r < b) :
    Calls Try.prog 40 #[.int .u8 r, .int .u8 g, .int .u8 b] w fun e w' => e = .returned (.tuple #[.int .u8 (Col.cyanOf r (Col.most r g b)), .int .u8 (Col.cyanOf g (Col.most r g b)), .int .u8 (Col.cyanOf b (Col.most r g b)), .int .u8 (255 - Col.most r g b)]) ∧ w = w' := by
  have hz : (b == 0) = false := by simp; omega
  go_enter Try.func40, Try.ntmps40
  go_wp2
  ((try simp only [Exit.inBlock, Exit.then]); refine bodyPost_ret (results_tmp4 rfl _ _ _) rfl ?_)
  refine ⟨ret4 ?_ ?_ ?_ ?_, rfl⟩
  all_goals rw [show Col.most r g b = b by unfold Col.most; omega]
  all_goals first | exact Col.cyan_eq _ _ (by omega) (by omega) (by omega) | exact (Col.cyan_self _).symm | rfl

theorem toCMYK_0 (w : World) : Calls Try.prog 40 #[.int .u8 0, .int .u8 0, .int .u8 0] w fun e w' => e = .returned (.tuple #[.int .u8 0, .int .u8 0, .int .u8 0, .int .u8 255]) ∧ w = w' := by
  go_enter Try.func40, Try.ntmps40
  go_wp2
  ((try simp only [Exit.inBlock, Exit.then]); refine bodyPost_ret (results_tmp4 rfl _ _ _) rfl ?_)
  exact ⟨rfl, rfl⟩

theorem toCMYK_call (w : World) (r g b : Int) (_r0 : 0 ≤ r) (_r1 : r ≤ 255) (_g0 : 0 ≤ g) (_g1 : g ≤ 255) (_b0 : 0 ≤ b) (_b1 : b ≤ 255) :
    Calls Try.prog 40 #[.int .u8 r, .int .u8 g, .int .u8 b] w fun e w' => e = .returned (.tuple #[.int .u8 (Col.cyanOf r (Col.most r g b)), .int .u8 (Col.cyanOf g (Col.most r g b)), .int .u8 (Col.cyanOf b (Col.most r g b)), .int .u8 (255 - Col.most r g b)]) ∧ w = w' := by
  by_cases h1 : r < g
  · by_cases h2 : g < b
    · exact toCMYK_b1 w r g b _r0 _r1 _g0 _g1 _b0 _b1 h1 h2
    · exact toCMYK_g w r g b _r0 _r1 _g0 _g1 _b0 _b1 h1 (by omega)
  · by_cases h2 : r < b
    · exact toCMYK_b2 w r g b _r0 _r1 _g0 _g1 _b0 _b1 (by omega) h2
    · by_cases h3 : 0 < r
      · exact toCMYK_r w r g b _r0 _r1 _g0 _g1 _b0 _b1 (by omega) (by omega) h3
      · obtain rfl : r = 0 := by omega
        obtain rfl : g = 0 := by omega
        obtain rfl : b = 0 := by omega
        refine (toCMYK_0 w).mono ?_
        rintro e w' ⟨rfl, rfl⟩
        exact ⟨ret4 (by decide +kernel) (by decide +kernel) (by decide +kernel) (by decide +kernel), rfl⟩

theorem toCMYK_any (w : World) (r g b : Int) (_r0 : 0 ≤ r) (_r1 : r ≤ 255) (_g0 : 0 ≤ g) (_g1 : g ≤ 255) (_b0 : 0 ≤ b) (_b1 : b ≤ 255) :
    Calls Try.prog 16 #[.int .u8 r, .int .u8 g, .int .u8 b] w fun e w' => e = .returned (.tuple #[.int .u8 (Col.cyanOf r (Col.most r g b)), .int .u8 (Col.cyanOf g (Col.most r g b)), .int .u8 (Col.cyanOf b (Col.most r g b)), .int .u8 (255 - Col.most r g b)]) ∧ w = w' := by
  go_enter Try.func16, Try.ntmps16
  go_wp2_with fail
  refine (toCMYK_call w r g b _r0 _r1 _g0 _g1 _b0 _b1).mono ?_
  rintro e w1 ⟨rfl, rfl⟩
  go_wp2
  ((try simp only [Exit.inBlock, Exit.then]); refine bodyPost_ret (results_tmp4 rfl _ _ _) rfl ?_)
  exact ⟨rfl, rfl⟩

theorem alive_any (w : World) : Calls Try.prog 17 #[] w fun e w' => e = .returned (.bool true) ∧ w = w' := by
  have h : Col.luma 255 255 255 = 255 := by decide +kernel
  go_enter Try.func17, Try.ntmps17
  go_wp2_with fail
  refine (toYCbCr_any _ 255 255 255 (by omega) (by omega) (by omega) (by omega) (by omega) (by omega)).mono ?_
  rintro e w2 ⟨rfl, rfl⟩
  go_wp2
  go_ret
  exact ⟨rfl, rfl⟩

end Go.Proofs.Ytfpngemkifhchaa
