/-
  The walks over the RGBA methods of colours of luma and chroma, with and without alpha: what each returns; nothing that was there is written.
-/
import Derived.Test.YtcpjngfiefkodaaVal
namespace Go.Proofs.Ytcpjngfiefkodaa
open Go.RowKit



set_option maxHeartbeats 2000000 in
theorem nycbcra_call (w : World) (y cb cr a : Int) (_y0 : 0 ≤ y) (_y1 : y ≤ 255) (_cb0 : 0 ≤ cb) (_cb1 : cb ≤ 255) (_cr0 : 0 ≤ cr) (_cr1 : cr ≤ 255) (_a0 : 0 ≤ a) (_a1 : a ≤ 255) :
    Calls Try.prog 34 #[.agg #[.int .u8 y, .int .u8 cb, .int .u8 cr, .int .u8 a]] w (Gives4 w (Col.scaled16 (Col.red16 y cr) (257 * a)) (Col.scaled16 (Col.green16 y cb cr) (257 * a)) (Col.scaled16 (Col.blue16 y cb) (257 * a)) (257 * a)) := by
  go_enter Try.func34, Try.ntmps34
  go_wp2
  all_goals ((try simp only [Exit.inBlock, Exit.then]); refine bodyPost_ret (results_tmp4 rfl _ _ _) rfl ?_)
  all_goals refine ⟨ret4 ?_ ?_ ?_ (Int.mul_comm _ _), (Below.refl _ _).alloc (Nat.le_refl _) _⟩
  all_goals first | exact Col.nyc_in _a0 _a1 (Col.mask_true (by omega) (by omega) (by assumption)) | exact Col.nyc_out _a0 _a1 (by omega) (by omega) (Col.mask_false (by assumption))

theorem nycbcra_any (w : World) (y cb cr a : Int) (_y0 : 0 ≤ y) (_y1 : y ≤ 255) (_cb0 : 0 ≤ cb) (_cb1 : cb ≤ 255) (_cr0 : 0 ≤ cr) (_cr1 : cr ≤ 255) (_a0 : 0 ≤ a) (_a1 : a ≤ 255) :
    Calls Try.prog 22 #[.int .u8 y, .int .u8 cb, .int .u8 cr, .int .u8 a] w (Gives4 w (Col.scaled16 (Col.red16 y cr) (257 * a)) (Col.scaled16 (Col.green16 y cb cr) (257 * a)) (Col.scaled16 (Col.blue16 y cb) (257 * a)) (257 * a)) := by
  go_enter Try.func22, Try.ntmps22
  go_wp2_with fail
  refine (nycbcra_call w y cb cr a _y0 _y1 _cb0 _cb1 _cr0 _cr1 _a0 _a1).mono ?_
  rintro e w1 ⟨rfl, hb⟩
  go_wp2
  ((try simp only [Exit.inBlock, Exit.then]); refine bodyPost_ret (results_tmp4 rfl _ _ _) rfl ?_)
  exact ⟨rfl, hb⟩

end Go.Proofs.Ytcpjngfiefkodaa
