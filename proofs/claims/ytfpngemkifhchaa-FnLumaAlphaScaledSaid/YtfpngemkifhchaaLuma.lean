/-
  The walks over the RGBA methods of colours of luma and chroma, with and without alpha: what each returns; nothing that was there is written.
-/
import Derived.Test.YtfpngemkifhchaaVal
namespace Go.Proofs.Ytfpngemkifhchaa
open Go.RowKit

set_option maxHeartbeats 2000000 in
theorem ycbcr_call (w : World) (y cb cr : Int) (_y0 : 0 ≤ y) (_y1 : y ≤ 255) (_cb0 : 0 ≤ cb) (_cb1 : cb ≤ 255) (_cr0 : 0 ≤ cr) (_cr1 : cr ≤ 255) :
    Calls Try.prog 53 #[.agg #[.int .u8 y, .int .u8 cb, .int .u8 cr]] w (Gives4 w (Col.red16 y cr) (Col.green16 y cb cr) (Col.blue16 y cb) 65535) := by
  go_enter Try.func53, Try.ntmps53
  go_wp2
  all_goals ((try simp only [Exit.inBlock, Exit.then]); refine bodyPost_ret (results_tmp4 rfl _ _ _) rfl ?_)
  all_goals refine ⟨ret4 ?_ ?_ ?_ rfl, (Below.refl _ _).alloc (Nat.le_refl _) _⟩
  all_goals first | exact Col.clip16_in' (Col.mask_true (by omega) (by omega) (by assumption)) | exact Col.clip16_out' (by omega) (by omega) (Col.mask_false (by assumption))

theorem ycbcr_any (w : World) (y cb cr : Int) (_y0 : 0 ≤ y) (_y1 : y ≤ 255) (_cb0 : 0 ≤ cb) (_cb1 : cb ≤ 255) (_cr0 : 0 ≤ cr) (_cr1 : cr ≤ 255) :
    Calls Try.prog 33 #[.int .u8 y, .int .u8 cb, .int .u8 cr] w (Gives4 w (Col.red16 y cr) (Col.green16 y cb cr) (Col.blue16 y cb) 65535) := by
  go_enter Try.func33, Try.ntmps33
  go_wp2_with fail
  refine (ycbcr_call w y cb cr _y0 _y1 _cb0 _cb1 _cr0 _cr1).mono ?_
  rintro e w1 ⟨rfl, hb⟩
  go_wp2
  ((try simp only [Exit.inBlock, Exit.then]); refine bodyPost_ret (results_tmp4 rfl _ _ _) rfl ?_)
  exact ⟨rfl, hb⟩

set_option maxHeartbeats 2000000 in
theorem nycbcra_call (w : World) (y cb cr a : Int) (_y0 : 0 ≤ y) (_y1 : y ≤ 255) (_cb0 : 0 ≤ cb) (_cb1 : cb ≤ 255) (_cr0 : 0 ≤ cr) (_cr1 : cr ≤ 255) (_a0 : 0 ≤ a) (_a1 : a ≤ 255) :
    Calls Try.prog 54 #[.agg #[.int .u8 y, .int .u8 cb, .int .u8 cr, .int .u8 a]] w (Gives4 w (Col.scaled16 (Col.red16 y cr) (257 * a)) (Col.scaled16 (Col.green16 y cb cr) (257 * a)) (Col.scaled16 (Col.blue16 y cb) (257 * a)) (257 * a)) := by
  go_enter Try.func54, Try.ntmps54
  go_wp2
  all_goals ((try simp only [Exit.inBlock, Exit.then]); refine bodyPost_ret (results_tmp4 rfl _ _ _) rfl ?_)
  all_goals refine ⟨ret4 ?_ ?_ ?_ (Int.mul_comm _ _), (Below.refl _ _).alloc (Nat.le_refl _) _⟩
  all_goals first | exact Col.nyc_in _a0 _a1 (Col.mask_true (by omega) (by omega) (by assumption)) | exact Col.nyc_out _a0 _a1 (by omega) (by omega) (Col.mask_false (by assumption))

theorem nycbcra_any (w : World) (y cb cr a : Int) (_y0 : 0 ≤ y) (_y1 : y ≤ 255) (_cb0 : 0 ≤ cb) (_cb1 : cb ≤ 255) (_cr0 : 0 ≤ cr) (_cr1 : cr ≤ 255) (_a0 : 0 ≤ a) (_a1 : a ≤ 255) :
    Calls Try.prog 35 #[.int .u8 y, .int .u8 cb, .int .u8 cr, .int .u8 a] w (Gives4 w (Col.scaled16 (Col.red16 y cr) (257 * a)) (Col.scaled16 (Col.green16 y cb cr) (257 * a)) (Col.scaled16 (Col.blue16 y cb) (257 * a)) (257 * a)) := by
  go_enter Try.func35, Try.ntmps35
  go_wp2_with fail
  refine (nycbcra_call w y cb cr a _y0 _y1 _cb0 _cb1 _cr0 _cr1 _a0 _a1).mono ?_
  rintro e w1 ⟨rfl, hb⟩
  go_wp2
  ((try simp only [Exit.inBlock, Exit.then]); refine bodyPost_ret (results_tmp4 rfl _ _ _) rfl ?_)
  exact ⟨rfl, hb⟩

end Go.Proofs.Ytfpngemkifhchaa
