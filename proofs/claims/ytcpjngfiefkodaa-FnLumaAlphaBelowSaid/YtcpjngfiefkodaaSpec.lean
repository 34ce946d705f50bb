/-
  The walks over the reference (package spec) and the small helpers of the laws: what each returns; the memory stays as it is.
-/
import Derived.Test.YtcpjngfiefkodaaConv
namespace Go.Proofs.Ytcpjngfiefkodaa
open Go.RowKit














theorem clamp_any (w : World) (n : Int) :
    Calls Try.prog 36 #[.int .i64 n] w fun e w' => e = .returned (.int .i64 (Col.clamp n)) ∧ w = w' := by
  obtain ⟨p, q, h1, h2, hq⟩ := Col.clamp_eq n
  have HQ := Lib.hid hq
  clear hq
  go_enter Try.func36, Try.ntmps36
  go_wp2
  go_ret
  exact ⟨by rw [← HQ.out]; rfl, rfl⟩

theorem lumaOf_any (w : World) (r g b : Int) (_r0 : 0 ≤ r) (_r1 : r ≤ 255) (_g0 : 0 ≤ g) (_g1 : g ≤ 255) (_b0 : 0 ≤ b) (_b1 : b ≤ 255) :
    Calls Try.prog 27 #[.int .u8 r, .int .u8 g, .int .u8 b] w fun e w' => e = .returned (.int .i64 (29900 * r + 58700 * g + 11400 * b)) ∧ w = w' := by
  go_enter Try.func27, Try.ntmps27
  go_wp2
  go_ret
  exact ⟨rfl, rfl⟩

theorem chromaOf_any (w : World) (r g b : Int) (_r0 : 0 ≤ r) (_r1 : r ≤ 255) (_g0 : 0 ≤ g) (_g1 : g ≤ 255) (_b0 : 0 ≤ b) (_b1 : b ≤ 255) :
    Calls Try.prog 25 #[.int .u8 r, .int .u8 g, .int .u8 b] w fun e w' => e = .returned (.tuple #[.int .i64 (Col.clamp (-16870 * r - 33130 * g + 50000 * b + 12800000)), .int .i64 (Col.clamp (50000 * r - 41870 * g - 8130 * b + 12800000))]) ∧ w = w' := by
  go_enter Try.func25, Try.ntmps25
  go_wp2_with fail
  refine (clamp_any _ _).mono ?_
  rintro e w1 ⟨rfl, rfl⟩
  go_wp2_with fail
  refine (clamp_any _ _).mono ?_
  rintro e w1 ⟨rfl, rfl⟩
  go_wp2
  go_ret2
  exact ⟨rfl, rfl⟩


theorem off_any (w : World) (v x : Int) (_v0 : 0 ≤ v) (_v1 : v ≤ 65535) (_x0 : 0 ≤ x) (_x1 : x ≤ 6553500000) :
    Calls Try.prog 38 #[.int .i64 v, .int .i64 x] w fun e w' => e = .returned (.int .i64 (Col.off v x)) ∧ w = w' := by
  by_cases h : v * 100000 - x < 0
  · go_enter Try.func38, Try.ntmps38
    go_wp2
    go_ret
    exact ⟨by unfold Col.off; rw [if_pos (by omega)]; rfl, rfl⟩
  · go_enter Try.func38, Try.ntmps38
    go_wp2
    go_ret
    exact ⟨by unfold Col.off; rw [if_neg (by omega)]; rfl, rfl⟩

theorem nearest_low (w : World) (x : Int) (_x0 : 0 ≤ x) (_x1 : x ≤ 25500000) (_h3 : x % 100000 < 49000) :
    Calls Try.prog 37 #[.int .i64 x] w fun e w' => e = .returned (.tuple #[.int .i64 ((x + 50000) / 100000), .bool true]) ∧ w = w' := by
  go_enter Try.func37, Try.ntmps37
  go_wp2
  go_ret2
  exact ⟨rfl, rfl⟩

theorem nearest_high (w : World) (x : Int) (_x0 : 0 ≤ x) (_x1 : x ≤ 25500000) (_h3 : 49000 ≤ x % 100000) (_h4 : 51000 < x % 100000) :
    Calls Try.prog 37 #[.int .i64 x] w fun e w' => e = .returned (.tuple #[.int .i64 ((x + 50000) / 100000), .bool true]) ∧ w = w' := by
  go_enter Try.func37, Try.ntmps37
  go_wp2
  go_ret2
  exact ⟨rfl, rfl⟩

theorem nearest_mid (w : World) (x : Int) (_x0 : 0 ≤ x) (_x1 : x ≤ 25500000) (_h3 : 49000 ≤ x % 100000) (_h4 : x % 100000 ≤ 51000) :
    Calls Try.prog 37 #[.int .i64 x] w fun e w' => e = .returned (.tuple #[.int .i64 ((x + 50000) / 100000), .bool false]) ∧ w = w' := by
  have q1 : decide (x % 100000 < 49000) = false := by simp; omega
  have q2 : decide (51000 < x % 100000) = false := by simp; omega
  go_enter Try.func37, Try.ntmps37
  go_wp2
  go_ret2
  exact ⟨rfl, rfl⟩

theorem closeTo_low (w : World) (v x : Int) (v0 : 0 ≤ v) (v1 : v ≤ 255) (x0 : 0 ≤ x) (x1 : x ≤ 25500000) (_h1 : Col.off v x ≤ 51000) (_h3 : x % 100000 < 49000) (_h5 : (v == (x + 50000) / 100000) = true) :
    Calls Try.prog 26 #[.int .u8 v, .int .i64 x] w fun e w' => e = .returned (.bool true) ∧ w = w' := by
  go_enter Try.func26, Try.ntmps26
  go_wp2_with fail
  refine (nearest_low _ x x0 x1 _h3).mono ?_
  rintro e wx ⟨rfl, rfl⟩
  go_wp2_with fail
  refine (off_any _ v x v0 (by omega) x0 (by omega)).mono ?_
  rintro e wx ⟨rfl, rfl⟩
  go_wp2
  go_ret
  exact ⟨rfl, rfl⟩

theorem closeTo_high (w : World) (v x : Int) (v0 : 0 ≤ v) (v1 : v ≤ 255) (x0 : 0 ≤ x) (x1 : x ≤ 25500000) (_h1 : Col.off v x ≤ 51000) (_h3 : 49000 ≤ x % 100000) (_h4 : 51000 < x % 100000) (_h5 : (v == (x + 50000) / 100000) = true) :
    Calls Try.prog 26 #[.int .u8 v, .int .i64 x] w fun e w' => e = .returned (.bool true) ∧ w = w' := by
  go_enter Try.func26, Try.ntmps26
  go_wp2_with fail
  refine (nearest_high _ x x0 x1 _h3 _h4).mono ?_
  rintro e wx ⟨rfl, rfl⟩
  go_wp2_with fail
  refine (off_any _ v x v0 (by omega) x0 (by omega)).mono ?_
  rintro e wx ⟨rfl, rfl⟩
  go_wp2
  go_ret
  exact ⟨rfl, rfl⟩

theorem closeTo_mid (w : World) (v x : Int) (v0 : 0 ≤ v) (v1 : v ≤ 255) (x0 : 0 ≤ x) (x1 : x ≤ 25500000) (_h1 : Col.off v x ≤ 51000) (_h3 : 49000 ≤ x % 100000) (_h4 : x % 100000 ≤ 51000) :
    Calls Try.prog 26 #[.int .u8 v, .int .i64 x] w fun e w' => e = .returned (.bool true) ∧ w = w' := by
  go_enter Try.func26, Try.ntmps26
  go_wp2_with fail
  refine (nearest_mid _ x x0 x1 _h3 _h4).mono ?_
  rintro e wx ⟨rfl, rfl⟩
  go_wp2_with fail
  refine (off_any _ v x v0 (by omega) x0 (by omega)).mono ?_
  rintro e wx ⟨rfl, rfl⟩
  go_wp2
  go_ret
  exact ⟨rfl, rfl⟩

theorem closeTo_any (w : World) (v x : Int) (v0 : 0 ≤ v) (v1 : v ≤ 255) (x0 : 0 ≤ x) (x1 : x ≤ 25500000) (h1 : Col.off v x ≤ 51000) (h2 : x % 100000 < 49000 ∨ 51000 < x % 100000 → v = (x + 50000) / 100000) :
    Calls Try.prog 26 #[.int .u8 v, .int .i64 x] w fun e w' => e = .returned (.bool true) ∧ w = w' := by
  by_cases k1 : x % 100000 < 49000
  · exact closeTo_low w v x v0 v1 x0 x1 h1 k1 (beq_iff_eq.2 (h2 (.inl k1)))
  · by_cases k2 : 51000 < x % 100000
    · exact closeTo_high w v x v0 v1 x0 x1 h1 (by omega) k2 (beq_iff_eq.2 (h2 (.inr k2)))
    · exact closeTo_mid w v x v0 v1 x0 x1 h1 (by omega) (by omega)

theorem share_any (w : World) (c m v : Int) (c0 : 0 ≤ c) (c1 : c ≤ 255) (m0 : 0 ≤ m) (m1 : m ≤ 255) (_v0 : 0 ≤ v) (_v1 : v ≤ 255) (h0 : 0 ≤ 255 * (m - v) - c * m) (h1 : 255 * (m - v) - c * m < m) :
    Calls Try.prog 17 #[.int .i64 c, .int .i64 m, .int .i64 v] w fun e w' => e = .returned (.bool true) ∧ w = w' := by
  have b := Col.mul_bd c0 c1 m0 m1
  generalize hp : c * m = p at b h0 h1
  obtain ⟨b0, b1⟩ := b
  go_enter Try.func17, Try.ntmps17
  go_wp2
  go_ret
  exact ⟨rfl, rfl⟩

theorem stays_any (w : World) (n b : Int) (_n0 : 0 ≤ n) (_n1 : n ≤ 255) (_b0 : 0 ≤ b) (_b1 : b ≤ 255) (h : n = b ∨ n = b + 1) :
    Calls Try.prog 21 #[.int .u8 n, .int .u8 b] w fun e w' => e = .returned (.bool true) ∧ w = w' := by
  rcases h with h | h
  · have h1 : (n == b) = true := by simp [h]
    clear h
    go_enter Try.func21, Try.ntmps21
    go_wp2
    go_ret
    exact ⟨rfl, rfl⟩
  · have h1 : (n == b) = false := by simp; omega
    have h2 : (n == b + 1) = true := by simp [h]
    clear h
    go_enter Try.func21, Try.ntmps21
    go_wp2
    go_ret
    exact ⟨rfl, rfl⟩

end Go.Proofs.Ytcpjngfiefkodaa
