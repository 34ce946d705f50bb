/-
  The walks over the conversions of image/color: CMYKToRGB, RGBToCMYK, RGBToYCbCr, YCbCrToRGB and the thin package's functions over them: what each returns; the memory stays as it is.
-/
import Derived.Test.YtemcnhoecmhlaaaVal
namespace Go.Proofs.Ytemcnhoecmhlaaa
open Go.RowKit

theorem cmykToRGB_call (w : World) (c m y k : Int) (_c0 : 0 ≤ c) (_c1 : c ≤ 255) (_m0 : 0 ≤ m) (_m1 : m ≤ 255) (_y0 : 0 ≤ y) (_y1 : y ≤ 255) (_k0 : 0 ≤ k) (_k1 : k ≤ 255) :
    Calls Try.prog 34 #[.int .u8 c, .int .u8 m, .int .u8 y, .int .u8 k] w fun e w' => e = .returned (.tuple #[.int .u8 (Col.inkOf c k), .int .u8 (Col.inkOf m k), .int .u8 (Col.inkOf y k)]) ∧ w = w' := by
  go_enter Try.func34, Try.ntmps34
  go_wp2
  go_ret3
  exact ⟨ret3 (Col.ink_eq8 c k _c0 _c1 _k0 _k1) (Col.ink_eq8 m k _m0 _m1 _k0 _k1) (Col.ink_eq8 y k _y0 _y1 _k0 _k1), rfl⟩

set_option maxHeartbeats 1000000 in
theorem toYCbCr_call (w : World) (r g b : Int) (_r0 : 0 ≤ r) (_r1 : r ≤ 255) (_g0 : 0 ≤ g) (_g1 : g ≤ 255) (_b0 : 0 ≤ b) (_b1 : b ≤ 255) :
    Calls Try.prog 41 #[.int .u8 r, .int .u8 g, .int .u8 b] w fun e w' => e = .returned (.tuple #[.int .u8 (Col.luma r g b), .int .u8 (Col.cbOf r g b), .int .u8 (Col.crOf r g b)]) ∧ w = w' := by
  go_enter Try.func41, Try.ntmps41
  go_wp2
  all_goals go_ret3
  all_goals refine ⟨ret3 rfl ?_ ?_, rfl⟩
  all_goals first | exact Col.clip8_in (Col.mask_true' (by omega) (by omega) (by assumption)) | exact Col.clip8_out (by omega) (by omega) (Col.mask_false' (by omega) (by omega) (by assumption)) | skip


theorem cmykToRGB_any (w : World) (c m y k : Int) (_c0 : 0 ≤ c) (_c1 : c ≤ 255) (_m0 : 0 ≤ m) (_m1 : m ≤ 255) (_y0 : 0 ≤ y) (_y1 : y ≤ 255) (_k0 : 0 ≤ k) (_k1 : k ≤ 255) :
    Calls Try.prog 20 #[.int .u8 c, .int .u8 m, .int .u8 y, .int .u8 k] w fun e w' => e = .returned (.tuple #[.int .u8 (Col.inkOf c k), .int .u8 (Col.inkOf m k), .int .u8 (Col.inkOf y k)]) ∧ w = w' := by
  go_enter Try.func20, Try.ntmps20
  go_wp2_with fail
  refine (cmykToRGB_call w c m y k _c0 _c1 _m0 _m1 _y0 _y1 _k0 _k1).mono ?_
  rintro e w1 ⟨rfl, rfl⟩
  go_wp2
  go_ret3
  exact ⟨rfl, rfl⟩

theorem toYCbCr_any (w : World) (r g b : Int) (_r0 : 0 ≤ r) (_r1 : r ≤ 255) (_g0 : 0 ≤ g) (_g1 : g ≤ 255) (_b0 : 0 ≤ b) (_b1 : b ≤ 255) :
    Calls Try.prog 35 #[.int .u8 r, .int .u8 g, .int .u8 b] w fun e w' => e = .returned (.tuple #[.int .u8 (Col.luma r g b), .int .u8 (Col.cbOf r g b), .int .u8 (Col.crOf r g b)]) ∧ w = w' := by
  go_enter Try.func35, Try.ntmps35
  go_wp2_with fail
  refine (toYCbCr_call w r g b _r0 _r1 _g0 _g1 _b0 _b1).mono ?_
  rintro e w1 ⟨rfl, rfl⟩
  go_wp2
  go_ret3
  exact ⟨rfl, rfl⟩


set_option maxHeartbeats 1000000 in
theorem toCMYK_r (w : World) (r g b : Int) (_r0 : 0 ≤ r) (_r1 : r ≤ 255) (_g0 : 0 ≤ g) (_g1 : g ≤ 255) (_b0 : 0 ≤ b) (_b1 : b ≤ 255) (_h1 : g ≤ r) (_h2 : b ≤ r) (_h3 : 0 < r) :
    Calls Try.prog 39 #[.int .u8 r, .int .u8 g, .int .u8 b] w fun e w' => e = .returned (.tuple #[.int .u8 (Col.cyanOf r (Col.most r g b)), .int .u8 (Col.cyanOf g (Col.most r g b)), .int .u8 (Col.cyanOf b (Col.most r g b)), .int .u8 (255 - Col.most r g b)]) ∧ w = w' := by
  have hz : (r == 0) = false := by simp; omega
  go_enter Try.func39, Try.ntmps39
  go_wp2
  ((try simp only [Exit.inBlock, Exit.then]); refine bodyPost_ret (results_tmp4 rfl _ _ _) rfl ?_)
  refine ⟨ret4 ?_ ?_ ?_ ?_, rfl⟩
  all_goals rw [show Col.most r g b = r by unfold Col.most; omega]
  all_goals first | exact Col.cyan_eq _ _ (by omega) (by omega) (by omega) | exact (Col.cyan_self _).symm | rfl

set_option maxHeartbeats 1000000 in
theorem toCMYK_g (w : World) (r g b : Int) (_r0 : 0 ≤ r) (_r1 : r ≤ 255) (_g0 : 0 ≤ g) (_g1 : g ≤ 255) (_b0 : 0 ≤ b) (_b1 : b ≤ 255) (_h1 : r < g) (_h2 : b ≤ g) :
    Calls Try.prog 39 #[.int .u8 r, .int .u8 g, .int .u8 b] w fun e w' => e = .returned (.tuple #[.int .u8 (Col.cyanOf r (Col.most r g b)), .int .u8 (Col.cyanOf g (Col.most r g b)), .int .u8 (Col.cyanOf b (Col.most r g b)), .int .u8 (255 - Col.most r g b)]) ∧ w = w' := by
  have hz : (g == 0) = false := by simp; omega
  go_enter Try.func39, Try.ntmps39
  go_wp2
  ((try simp only [Exit.inBlock, Exit.then]); refine bodyPost_ret (results_tmp4 rfl _ _ _) rfl ?_)
  refine ⟨ret4 ?_ ?_ ?_ ?_, rfl⟩
  all_goals rw [show Col.most r g b = g by unfold Col.most; omega]
  all_goals first | exact Col.cyan_eq _ _ (by omega) (by omega) (by omega) | exact (Col.cyan_self _).symm | rfl

set_option maxHeartbeats 1000000 in
theorem toCMYK_b1 (w : World) (r g b : Int) (_r0 : 0 ≤ r) (_r1 : r ≤ 255) (_g0 : 0 ≤ g) (_g1 : g ≤ 255) (_b0 : 0 ≤ b) (_b1 : b ≤ 255) (_h1 : r < g) (_h2 : g < b) :
    Calls Try.prog 39 #[.int .u8 r, .int .u8 g, .int .u8 b] w fun e w' => e = .returned (.tuple #[.int .u8 (Col.cyanOf r (Col.most r g b)), .int .u8 (Col.cyanOf g (Col.most r g b)), .int .u8 (Col.cyanOf b (Col.most r g b)), .int .u8 (255 - Col.most r g b)]) ∧ w = w' := by
  have hz : (b == 0) = false := by simp; omega
  go_enter Try.func39, Try.ntmps39
  go_wp2
  ((try simp only [Exit.inBlock, Exit.then]); refine bodyPost_ret (results_tmp4 rfl _ _ _) rfl ?_)
  refine ⟨ret4 ?_ ?_ ?_ ?_, rfl⟩
  all_goals rw [show Col.most r g b = b by unfold Col.most; omega]
  all_goals first | exact Col.cyan_eq _ _ (by omega) (by omega) (by omega) | exact (Col.cyan_self _).symm | rfl

set_option maxHeartbeats 1000000 in
theorem toCMYK_b2 (w : World) (r g b : Int) (_r0 : 0 ≤ r) (_r1 : r ≤ 255) (_g0 : 0 ≤ g) (_g1 : g ≤ 255) (_b0 : 0 ≤ b) (_b1 : b ≤ 255) (_h1 : g ≤ r) (_h2 : r < b) :
    Calls Try.prog 39 #[.int .u8 r, .int .u8 g, .int .u8 b] w fun e w' => e = .returned (.tuple #[.int .u8 (Col.cyanOf r (Col.most r g b)), .int .u8 (Col.cyanOf g (Col.most r g b)), .int .u8 (Col.cyanOf b (Col.most r g b)), .int .u8 (255 - Col.most r g b)]) ∧ w = w' := by
  have hz : (b == 0) = false := by simp; omega
  go_enter Try.func39, Try.ntmps39
  go_wp2
  ((try simp only [Exit.inBlock, Exit.then]); refine bodyPost_ret (results_tmp4 rfl _ _ _) rfl ?_)
  refine ⟨ret4 ?_ ?_ ?_ ?_, rfl⟩
  all_goals rw [show Col.most r g b = b by unfold Col.most; omega]
  all_goals first | exact Col.cyan_eq _ _ (by omega) (by omega) (by omega) | exact (Col.cyan_self _).symm | rfl

theorem toCMYK_0 (w : World) : Calls Try.prog 39 #[.int .u8 0, .int .u8 0, .int .u8 0] w fun e w' => e = .returned (.tuple #[.int .u8 0, .int .u8 0, .int .u8 0, .int .u8 255]) ∧ w = w' := by
  go_enter Try.func39, Try.ntmps39
  go_wp2
  ((try simp only [Exit.inBlock, Exit.then]); refine bodyPost_ret (results_tmp4 rfl _ _ _) rfl ?_)
  exact ⟨rfl, rfl⟩

theorem toCMYK_call (w : World) (r g b : Int) (_r0 : 0 ≤ r) (_r1 : r ≤ 255) (_g0 : 0 ≤ g) (_g1 : g ≤ 255) (_b0 : 0 ≤ b) (_b1 : b ≤ 255) :
    Calls Try.prog 39 #[.int .u8 r, .int .u8 g, .int .u8 b] w fun e w' => e = .returned (.tuple #[.int .u8 (Col.cyanOf r (Col.most r g b)), .int .u8 (Col.cyanOf g (Col.most r g b)), .int .u8 (Col.cyanOf b (Col.most r g b)), .int .u8 (255 - Col.most r g b)]) ∧ w = w' := by
  by_cases h1 : r < g
  · by_cases h2 : g < b
    · exact toCMYK_b1 w r g b _r0 _r1 _g0 _g1 _b0 _b1 h1 h2
    · exact toCMYK_g w r g b _r0 _r1 _g0 _g1 _b0 _b1 h1 (by omega)
  · by_cases h2 : r < b
    · exact toCMYK_b2 w r g b _r0 _r1 _g0 _g1 _b0 _b1 (by omega) h2
    · by_cases h3 : 0 < r
      · exact toCMYK_r w r g b _r0 _r1 _g0 _g1 _b0 _b1 (by omega) (by omega) h3
      · obtain rfl : r = 0 := by omega
        obtain rfl : g = 0 := by omega
        obtain rfl : b = 0 := by omega
        refine (toCMYK_0 w).mono ?_
        rintro e w' ⟨rfl, rfl⟩
        exact ⟨ret4 (by decide +kernel) (by decide +kernel) (by decide +kernel) (by decide +kernel), rfl⟩

theorem toCMYK_any (w : World) (r g b : Int) (_r0 : 0 ≤ r) (_r1 : r ≤ 255) (_g0 : 0 ≤ g) (_g1 : g ≤ 255) (_b0 : 0 ≤ b) (_b1 : b ≤ 255) :
    Calls Try.prog 28 #[.int .u8 r, .int .u8 g, .int .u8 b] w fun e w' => e = .returned (.tuple #[.int .u8 (Col.cyanOf r (Col.most r g b)), .int .u8 (Col.cyanOf g (Col.most r g b)), .int .u8 (Col.cyanOf b (Col.most r g b)), .int .u8 (255 - Col.most r g b)]) ∧ w = w' := by
  go_enter Try.func28, Try.ntmps28
  go_wp2_with fail
  refine (toCMYK_call w r g b _r0 _r1 _g0 _g1 _b0 _b1).mono ?_
  rintro e w1 ⟨rfl, rfl⟩
  go_wp2
  ((try simp only [Exit.inBlock, Exit.then]); refine bodyPost_ret (results_tmp4 rfl _ _ _) rfl ?_)
  exact ⟨rfl, rfl⟩

theorem alive_any (w : World) : Calls Try.prog 21 #[] w fun e w' => e = .returned (.bool true) ∧ w = w' := by
  have h : Col.luma 255 255 255 = 255 := by decide +kernel
  go_enter Try.func21, Try.ntmps21
  go_wp2_with fail
  refine (toYCbCr_any _ 255 255 255 (by omega) (by omega) (by omega) (by omega) (by omega) (by omega)).mono ?_
  rintro e w2 ⟨rfl, rfl⟩
  go_wp2
  go_ret
  exact ⟨rfl, rfl⟩

end Go.Proofs.Ytemcnhoecmhlaaa
