/-
  The walks over the RGBA methods of colours of luma and chroma, with and without alpha: what each returns; nothing that was there is written.
-/
import Derived.Test.YtemcnhoecmhlaaaVal
namespace Go.Proofs.Ytemcnhoecmhlaaa
open Go.RowKit

set_option maxHeartbeats 2000000 in
theorem ycbcr_call (w : World) (y cb cr : Int) (_y0 : 0 ≤ y) (_y1 : y ≤ 255) (_cb0 : 0 ≤ cb) (_cb1 : cb ≤ 255) (_cr0 : 0 ≤ cr) (_cr1 : cr ≤ 255) :
    Calls Try.prog 32 #[.agg #[.int .u8 y, .int .u8 cb, .int .u8 cr]] w (Gives4 w (Col.red16 y cr) (Col.green16 y cb cr) (Col.blue16 y cb) 65535) := by
  go_enter Try.func32, Try.ntmps32
  go_wp2
  all_goals ((try simp only [Exit.inBlock, Exit.then]); refine bodyPost_ret (results_tmp4 rfl _ _ _) rfl ?_)
  all_goals refine ⟨ret4 ?_ ?_ ?_ rfl, (Below.refl _ _).alloc (Nat.le_refl _) _⟩
  all_goals first | exact Col.clip16_in' (Col.mask_true (by omega) (by omega) (by assumption)) | exact Col.clip16_out' (by omega) (by omega) (Col.mask_false (by assumption))

theorem ycbcr_any (w : World) (y cb cr : Int) (_y0 : 0 ≤ y) (_y1 : y ≤ 255) (_cb0 : 0 ≤ cb) (_cb1 : cb ≤ 255) (_cr0 : 0 ≤ cr) (_cr1 : cr ≤ 255) :
    Calls Try.prog 16 #[.int .u8 y, .int .u8 cb, .int .u8 cr] w (Gives4 w (Col.red16 y cr) (Col.green16 y cb cr) (Col.blue16 y cb) 65535) := by
  go_enter Try.func16, Try.ntmps16
  go_wp2_with fail
  refine (ycbcr_call w y cb cr _y0 _y1 _cb0 _cb1 _cr0 _cr1).mono ?_
  rintro e w1 ⟨rfl, hb⟩
  go_wp2
  ((try simp only [Exit.inBlock, Exit.then]); refine bodyPost_ret (results_tmp4 rfl _ _ _) rfl ?_)
  exact ⟨rfl, hb⟩



end Go.Proofs.Ytemcnhoecmhlaaa
