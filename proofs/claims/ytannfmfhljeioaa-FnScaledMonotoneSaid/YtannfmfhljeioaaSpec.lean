/-
  The walks over the reference (package spec) and the small helpers of the laws: what each returns; the memory stays as it is.
-/
import Derived.Test.YtannfmfhljeioaaConv
namespace Go.Proofs.Ytannfmfhljeioaa
open Go.RowKit

theorem wide_any (w : World) (v : Int) (_v0 : 0 ≤ v) (_v1 : v ≤ 255) :
    Calls Try.prog 43 #[.int .u8 v] w fun e w' => e = .returned (.int .u32 (257 * v)) ∧ w = w' := by
  go_enter Try.func43, Try.ntmps43
  go_wp2
  go_ret
  exact ⟨rfl, rfl⟩

theorem scaled_any (w : World) (v a : Int) (v0 : 0 ≤ v) (v1 : v ≤ 65535) (a0 : 0 ≤ a) (a1 : a ≤ 65535) :
    Calls Try.prog 33 #[.int .u32 v, .int .u32 a] w fun e w' => e = .returned (.int .u32 (Col.scaled16 v a)) ∧ w = w' := by
  have b := Col.mul_bd v0 v1 a0 a1
  generalize hp : v * a = p at b
  obtain ⟨b0, b1⟩ := b
  go_enter Try.func33, Try.ntmps33
  go_wp2
  go_ret
  exact ⟨by unfold Col.scaled16; rw [hp]; rfl, rfl⟩




set_option maxHeartbeats 1000000 in
theorem specNRGBA_any (w : World) (c m y k : Int) (c0 : 0 ≤ c) (c1 : c ≤ 255) (m0 : 0 ≤ m) (m1 : m ≤ 255) (y0 : 0 ≤ y) (y1 : y ≤ 255) (k0 : 0 ≤ k) (k1 : k ≤ 255) :
    Calls Try.prog 26 #[.int .u8 c, .int .u8 m, .int .u8 y, .int .u8 k] w fun e w' => e = .returned (.tuple #[.int .u32 (Col.scaled16 (257 * c) (257 * k)), .int .u32 (Col.scaled16 (257 * m) (257 * k)), .int .u32 (Col.scaled16 (257 * y) (257 * k)), .int .u32 (257 * k)]) ∧ w = w' := by
  go_enter Try.func26, Try.ntmps26
  go_wp2_with (first | (go_at_call 43; refine (wide_any _ _ (by omega) (by omega)).mono ?_; rintro e w' ⟨rfl, rfl⟩) | (go_at_call 33; refine (scaled_any _ _ _ (by omega) (by omega) (by omega) (by omega)).mono ?_; rintro e w' ⟨rfl, rfl⟩))
  ((try simp only [Exit.inBlock, Exit.then]); refine bodyPost_ret (results_tmp4 rfl _ _ _) rfl ?_)
  exact ⟨rfl, rfl⟩

set_option maxHeartbeats 1000000 in
theorem specNRGBA64_any (w : World) (c m y k : Int) (c0 : 0 ≤ c) (c1 : c ≤ 65535) (m0 : 0 ≤ m) (m1 : m ≤ 65535) (y0 : 0 ≤ y) (y1 : y ≤ 65535) (k0 : 0 ≤ k) (k1 : k ≤ 65535) :
    Calls Try.prog 15 #[.int .u16 c, .int .u16 m, .int .u16 y, .int .u16 k] w fun e w' => e = .returned (.tuple #[.int .u32 (Col.scaled16 c k), .int .u32 (Col.scaled16 m k), .int .u32 (Col.scaled16 y k), .int .u32 k]) ∧ w = w' := by
  go_enter Try.func15, Try.ntmps15
  go_wp2_with (go_at_call 33; refine (scaled_any _ _ _ (by omega) (by omega) (by omega) (by omega)).mono ?_; rintro e w' ⟨rfl, rfl⟩)
  ((try simp only [Exit.inBlock, Exit.then]); refine bodyPost_ret (results_tmp4 rfl _ _ _) rfl ?_)
  exact ⟨rfl, rfl⟩


theorem wide16_any (w : World) (x v a : Int) (_x0 : 0 ≤ x) (_x1 : x ≤ 65535) (v0 : 0 ≤ v) (v1 : v ≤ 65535) (a0 : 0 ≤ a) (a1 : a ≤ 65535) (h0 : v * a - 65535 * x < 65535) (h1 : -65535 < v * a - 65535 * x) :
    Calls Try.prog 20 #[.int .u32 x, .int .u16 v, .int .u16 a] w fun e w' => e = .returned (.bool true) ∧ w = w' := by
  have b := Col.mul_bd v0 v1 a0 a1
  generalize hp : v * a = p at b h0 h1
  obtain ⟨b0, b1⟩ := b
  go_enter Try.func20, Try.ntmps20
  go_wp2
  go_ret
  exact ⟨rfl, rfl⟩

theorem product_any (w : World) (x v a : Int) (_x0 : 0 ≤ x) (_x1 : x ≤ 65535) (v0 : 0 ≤ v) (v1 : v ≤ 255) (a0 : 0 ≤ a) (a1 : a ≤ 255) (h0 : 257 * (v * a) - 255 * x < 255) (h1 : -255 < 257 * (v * a) - 255 * x) :
    Calls Try.prog 29 #[.int .u32 x, .int .u8 v, .int .u8 a] w fun e w' => e = .returned (.bool true) ∧ w = w' := by
  have b := Col.mul_bd v0 v1 a0 a1
  rw [← Int.mul_assoc] at h0 h1
  have b2 : 0 ≤ 257 * v * a ∧ 257 * v * a ≤ 16711425 := by rw [Int.mul_assoc]; omega
  clear b
  generalize hp : 257 * v * a = p at b2 h0 h1
  obtain ⟨b0, b1⟩ := b2
  go_enter Try.func29, Try.ntmps29
  go_wp2
  go_ret
  exact ⟨rfl, rfl⟩

theorem greatest_any (w : World) (r g b : Int) (r0 : 0 ≤ r) (r1 : r ≤ 255) (g0 : 0 ≤ g) (g1 : g ≤ 255) (b0 : 0 ≤ b) (b1 : b ≤ 255) :
    Calls Try.prog 45 #[.int .u8 r, .int .u8 g, .int .u8 b] w fun e w' => e = .returned (.int .i64 (Col.most r g b)) ∧ w = w' := by
  obtain ⟨n, m, h1, h2, n0, n1, m0, m1, hm⟩ := Col.max3 r g b r0 r1 g0 g1 b0 b1
  have HM := Lib.hid hm
  clear hm
  go_enter Try.func45, Try.ntmps45
  go_wp2
  go_ret
  exact ⟨by rw [← HM.out]; rfl, rfl⟩

theorem inkOf_any (w : World) (v m : Int) (v0 : 0 ≤ v) (v1 : v ≤ m) (m1 : m ≤ 255) :
    Calls Try.prog 46 #[.int .u8 v, .int .i64 m] w fun e w' => e = .returned (.int .i64 (Col.cyanOf v m)) ∧ w = w' := by
  by_cases hz : m = 0
  · have hb : (m == 0) = true := by simp [hz]
    have HZ := Lib.hid hz
    clear hz
    go_enter Try.func46, Try.ntmps46
    go_wp2
    go_ret
    exact ⟨by unfold Col.cyanOf; rw [if_pos HZ.out]; rfl, rfl⟩
  · have hb : (m == 0) = false := by simp [hz]
    have HZ := Lib.hid hz
    have hm : 1 ≤ m := by omega
    clear hz
    go_enter Try.func46, Try.ntmps46
    go_wp2
    go_ret
    exact ⟨by unfold Col.cyanOf; rw [if_neg HZ.out]; rfl, rfl⟩

theorem specToCMYK_any (w : World) (r g b : Int) (r0 : 0 ≤ r) (r1 : r ≤ 255) (g0 : 0 ≤ g) (g1 : g ≤ 255) (b0 : 0 ≤ b) (b1 : b ≤ 255) :
    Calls Try.prog 31 #[.int .u8 r, .int .u8 g, .int .u8 b] w fun e w' => e = .returned (.tuple #[.int .u8 (Col.cyanOf r (Col.most r g b)), .int .u8 (Col.cyanOf g (Col.most r g b)), .int .u8 (Col.cyanOf b (Col.most r g b)), .int .u8 (255 - Col.most r g b)]) ∧ w = w' := by
  obtain ⟨m1, m2, m3, m4⟩ := Col.most_bd r g b
  have m5 : Col.most r g b ≤ 255 := by omega
  clear m4
  obtain ⟨c0, c1⟩ := Col.cyanOf_bd r (Col.most r g b) r0 m1
  obtain ⟨c2, c3⟩ := Col.cyanOf_bd g (Col.most r g b) g0 m2
  obtain ⟨c4, c5⟩ := Col.cyanOf_bd b (Col.most r g b) b0 m3
  go_enter Try.func31, Try.ntmps31
  go_wp2_with fail
  refine (greatest_any _ r g b r0 r1 g0 g1 b0 b1).mono ?_
  rintro e w1 ⟨rfl, rfl⟩
  go_wp2_with fail
  refine (inkOf_any _ r _ r0 m1 m5).mono ?_
  rintro e w1 ⟨rfl, rfl⟩
  go_wp2_with fail
  refine (inkOf_any _ g _ g0 m2 m5).mono ?_
  rintro e w1 ⟨rfl, rfl⟩
  go_wp2_with fail
  refine (inkOf_any _ b _ b0 m3 m5).mono ?_
  rintro e w1 ⟨rfl, rfl⟩
  go_wp2
  ((try simp only [Exit.inBlock, Exit.then]); refine bodyPost_ret (results_tmp4 rfl _ _ _) rfl ?_)
  exact ⟨rfl, rfl⟩

end Go.Proofs.Ytannfmfhljeioaa
