/-
  The plain arithmetic of image/color, with no program in sight: the values that the conversions compute, as functions on whole numbers, and what holds of them.
-/
import Derived.WalkKit
namespace Go.Proofs.Ytfpngemkifhchaa.Col
open Go

/-! ## Bits -/

theorem and_top (n : Nat) (h : n < 4294967296) : n &&& 4278190080 = 16777216 * (n / 16777216) := by
  have h1 : (n &&& 4278190080) / 2 ^ 24 = n / 2 ^ 24 := by
    rw [← Nat.shiftRight_eq_div_pow, Nat.shiftRight_and_distrib]
    have e : (4278190080 : Nat) >>> 24 = 2 ^ 8 - 1 := by decide
    rw [e, Nat.and_two_pow_sub_one_eq_mod, Nat.shiftRight_eq_div_pow]
    omega
  have h2 : (n &&& 4278190080) % 2 ^ 24 = 0 := by
    rw [Nat.and_mod_two_pow]
    have e : (4278190080 : Nat) % 2 ^ 24 = 0 := by decide
    rw [e, Nat.and_zero]
  omega

theorem mask_in (x : Int) (h0 : 0 ≤ x) (h1 : x < 16777216) : bits .and .u32 (IntKind.u32.wrap x) 4278190080 = 0 := by
  rw [IntKind.wrap_u32]
  have e : x % 4294967296 = x := by omega
  rw [e, u32_and x 4278190080 h0 (by omega) (by decide) (by decide)]
  have : (x.toNat &&& (4278190080 : Int).toNat) = 0 := by
    show x.toNat &&& 4278190080 = 0
    rw [and_top _ (by omega)]; omega
  rw [this]; rfl

theorem mask_out (x : Int) (h : x < 0 ∨ 16777216 ≤ x) (h0 : -2147483648 ≤ x) (h1 : x < 2147483648) : bits .and .u32 (IntKind.u32.wrap x) 4278190080 ≠ 0 := by
  rw [IntKind.wrap_u32]
  rw [u32_and (x % 4294967296) 4278190080 (by omega) (by omega) (by decide) (by decide)]
  have : (x % 4294967296).toNat &&& (4278190080 : Int).toNat = 16777216 * ((x % 4294967296).toNat / 16777216) := by
    show (x % 4294967296).toNat &&& 4278190080 = _
    rw [and_top _ (by omega)]
  rw [this]; omega

theorem or8_nat (n : Nat) (h : n < 256) : n ||| n * 256 = 257 * n := by
  rw [Nat.or_comm, nat_join 8 (n * 256) n (by omega) (by omega)]; omega

theorem or8 (x : Int) (h0 : 0 ≤ x) (h1 : x ≤ 255) : bits .or .u32 x (x * 256) = 257 * x := by
  rw [u32_or x (x * 256) h0 (by omega) (by omega) (by omega)]
  have : (x * 256).toNat = x.toNat * 256 := by omega
  rw [this, or8_nat _ (by omega)]; omega

/-! ## The two clips -/

/-- x / 65536, kept within 0 and 255. -/
def clip8 (x : Int) : Int := if x < 0 then 0 else if x < 16777216 then x / 65536 else 255
/-- x / 256, kept within 0 and 65535. -/
def clip16 (x : Int) : Int := if x < 0 then 0 else if x < 16777216 then x / 256 else 65535

theorem mask_true {x : Int} (h0 : -2147483648 ≤ x) (h1 : x < 2147483648) (h : (bits .and .u32 (x % 4294967296) 4278190080 == 0) = true) : 0 ≤ x ∧ x < 16777216 := by
  rw [beq_iff_eq, ← IntKind.wrap_u32] at h
  refine ⟨Decidable.byContradiction fun k => mask_out x (.inl (by omega)) h0 h1 h, Decidable.byContradiction fun k => mask_out x (.inr (by omega)) h0 h1 h⟩

theorem mask_false {x : Int} (h : (bits .and .u32 (x % 4294967296) 4278190080 == 0) = false) : x < 0 ∨ 16777216 ≤ x := by
  rw [beq_eq_false_iff_ne, ← IntKind.wrap_u32] at h
  exact Decidable.byContradiction fun k => h (mask_in x (by omega) (by omega))

theorem mask_true' {x : Int} (h0 : 0 ≤ x) (h1 : x < 2147483648) (h : (bits .and .u32 x 4278190080 == 0) = true) : 0 ≤ x ∧ x < 16777216 := by
  have e : x % 4294967296 = x := by omega
  exact mask_true (by omega) h1 (by rw [e]; exact h)

theorem mask_false' {x : Int} (h0 : 0 ≤ x) (h1 : x < 2147483648) (h : (bits .and .u32 x 4278190080 == 0) = false) : x < 0 ∨ 16777216 ≤ x := by
  have e : x % 4294967296 = x := by omega
  exact mask_false (by rw [e]; exact h)

theorem clip8_in {x : Int} (h : 0 ≤ x ∧ x < 16777216) : x / 65536 % 256 = clip8 x := by
  unfold clip8; rw [if_neg (by omega), if_pos (by omega)]; omega
theorem clip8_out {x : Int} (h0 : -2147483648 ≤ x) (h1 : x < 2147483648) (h : x < 0 ∨ 16777216 ≤ x) : bits .xor .i32 (-1) (x / 2147483648) % 256 = clip8 x := by
  unfold clip8
  rcases h with h | h
  · have e : x / 2147483648 = -1 := by omega
    rw [if_pos h, e]; decide +kernel
  · have e : x / 2147483648 = 0 := by omega
    rw [if_neg (by omega), if_neg (by omega), e]; decide +kernel
theorem clip16_out {x : Int} (h0 : -2147483648 ≤ x) (h1 : x < 2147483648) (h : x < 0 ∨ 16777216 ≤ x) : bits .and .i32 (bits .xor .i32 (-1) (x / 2147483648)) 65535 = clip16 x := by
  unfold clip16
  rcases h with h | h
  · have e : x / 2147483648 = -1 := by omega
    rw [if_pos h, e]; decide +kernel
  · have e : x / 2147483648 = 0 := by omega
    rw [if_neg (by omega), if_neg (by omega), e]; decide +kernel
theorem clip8_top {x : Int} (h0 : 0 ≤ x) (h : x < 0 ∨ 16777216 ≤ x) : 255 = clip8 x := by
  unfold clip8; rw [if_neg (by omega), if_neg (by omega)]
theorem clip16_in {x : Int} (h : 0 ≤ x ∧ x < 16777216) : x / 256 = clip16 x := by
  unfold clip16; rw [if_neg (by omega), if_pos (by omega)]

/-! ## What the conversions compute -/

def luma (r g b : Int) : Int := (19595 * r + 38470 * g + 7471 * b + 32768) / 65536
def cbOf (r g b : Int) : Int := clip8 (-11056 * r - 21712 * g + 32768 * b + 8421376)
def crOf (r g b : Int) : Int := clip8 (32768 * r - 27440 * g - 5328 * b + 8421376)
def redX (y cr : Int) : Int := y * 65793 + 91881 * (cr - 128)
def greenX (y cb cr : Int) : Int := y * 65793 - 22554 * (cb - 128) - 46802 * (cr - 128)
def blueX (y cb : Int) : Int := y * 65793 + 116130 * (cb - 128)
def redOf (y cr : Int) : Int := clip8 (redX y cr)
def greenOf (y cb cr : Int) : Int := clip8 (greenX y cb cr)
def blueOf (y cb : Int) : Int := clip8 (blueX y cb)
def red16 (y cr : Int) : Int := clip16 (redX y cr)
def green16 (y cb cr : Int) : Int := clip16 (greenX y cb cr)
def blue16 (y cb : Int) : Int := clip16 (blueX y cb)
/-- a value of 8 bits scaled by an alpha of 8 bits, in 16 bits -/
def scaled8 (v a : Int) : Int := 257 * (v * a) / 255
/-- a value of 16 bits scaled by an alpha of 16 bits -/
def scaled16 (v a : Int) : Int := v * a / 65535
/-- a colour of inks: one value of 16 bits -/
def ink16 (c k : Int) : Int := 257 * ((255 - c) * (255 - k)) / 255
/-- a colour of inks: one value of 8 bits -/
def inkOf (c k : Int) : Int := ink16 c k / 256
/-- the greatest of three -/
def most (r g b : Int) : Int := max (max r g) b
/-- how much of an ink there is -/
def cyanOf (v w : Int) : Int := if w = 0 then 0 else (w - v) * 255 / w

/-! ## Products -/

theorem mul_bd {x y A B : Int} (x0 : 0 ≤ x) (x1 : x ≤ A) (y0 : 0 ≤ y) (y1 : y ≤ B) : 0 ≤ x * y ∧ x * y ≤ A * B :=
  ⟨Int.mul_nonneg x0 y0, Int.mul_le_mul x1 y1 y0 (by omega)⟩

theorem mul_257 (x y : Int) : (257 * x) * (257 * y) = 66049 * (x * y) := by
  rw [Int.mul_assoc, Int.mul_left_comm x 257 y, ← Int.mul_assoc]; omega

theorem ink_eq (c k : Int) (c0 : 0 ≤ c) (c1 : c ≤ 255) (k0 : 0 ≤ k) (k1 : k ≤ 255) : (65535 - c * 257) * (65535 - k * 257) % 4294967296 / 65535 = ink16 c k := by
  have e1 : 65535 - c * 257 = 257 * (255 - c) := by omega
  have e2 : 65535 - k * 257 = 257 * (255 - k) := by omega
  have b := mul_bd (x := 255 - c) (y := 255 - k) (A := 255) (B := 255) (by omega) (by omega) (by omega) (by omega)
  rw [e1, e2, mul_257]
  unfold ink16
  generalize (255 - c) * (255 - k) = p at b
  omega

theorem ink16_bd (c k : Int) (c0 : 0 ≤ c) (c1 : c ≤ 255) (k0 : 0 ≤ k) (k1 : k ≤ 255) : 0 ≤ ink16 c k ∧ ink16 c k ≤ 65535 := by
  have b := mul_bd (x := 255 - c) (y := 255 - k) (A := 255) (B := 255) (by omega) (by omega) (by omega) (by omega)
  unfold ink16
  omega

theorem ink_eq8 (c k : Int) (c0 : 0 ≤ c) (c1 : c ≤ 255) (k0 : 0 ≤ k) (k1 : k ≤ 255) : (65535 - c * 257) * (65535 - k * 257) % 4294967296 / 65535 / 256 % 256 = inkOf c k := by
  have := ink16_bd c k c0 c1 k0 k1
  rw [ink_eq c k c0 c1 k0 k1]
  unfold inkOf
  omega

theorem inkOf_bd (c k : Int) (c0 : 0 ≤ c) (c1 : c ≤ 255) (k0 : 0 ≤ k) (k1 : k ≤ 255) : 0 ≤ inkOf c k ∧ inkOf c k ≤ 255 := by
  have := ink16_bd c k c0 c1 k0 k1
  unfold inkOf
  omega

/-! ## The forms in which the walks leave the values -/

theorem clip16_le (x : Int) : 0 ≤ clip16 x ∧ clip16 x ≤ 65535 := by unfold clip16; split <;> (try split) <;> omega
theorem clip16_in' {x : Int} (h : 0 ≤ x ∧ x < 16777216) : x / 256 % 4294967296 = clip16 x := by
  rw [clip16_in h]; have := clip16_le x; omega
theorem clip16_out' {x : Int} (h0 : -2147483648 ≤ x) (h1 : x < 2147483648) (h : x < 0 ∨ 16777216 ≤ x) : bits .and .i32 (bits .xor .i32 (-1) (x / 2147483648)) 65535 % 4294967296 = clip16 x := by
  rw [clip16_out h0 h1 h]; have := clip16_le x; omega
theorem sc16_eq (v a : Int) (v0 : 0 ≤ v) (v1 : v ≤ 65535) (a0 : 0 ≤ a) (a1 : a ≤ 65535) : v * a % 4294967296 / 65535 = scaled16 v a := by
  have b := mul_bd v0 v1 a0 a1
  unfold scaled16
  generalize v * a = p at b
  omega
theorem sc8_eq (v a : Int) (v0 : 0 ≤ v) (v1 : v ≤ 255) (a0 : 0 ≤ a) (a1 : a ≤ 255) : 257 * v * a % 4294967296 / 255 = scaled8 v a := by
  have b := mul_bd v0 v1 a0 a1
  unfold scaled8
  rw [Int.mul_assoc]
  generalize v * a = p at b
  omega
theorem nyc_in {x a : Int} (a0 : 0 ≤ a) (a1 : a ≤ 255) (h : 0 ≤ x ∧ x < 16777216) : x / 256 % 4294967296 * (a * 257) % 4294967296 / 65535 = scaled16 (clip16 x) (257 * a) := by
  have b := clip16_le x
  rw [clip16_in' h, Int.mul_comm a 257]
  exact sc16_eq _ _ b.1 b.2 (by omega) (by omega)
theorem nyc_out {x a : Int} (a0 : 0 ≤ a) (a1 : a ≤ 255) (h0 : -2147483648 ≤ x) (h1 : x < 2147483648) (h : x < 0 ∨ 16777216 ≤ x) : bits .and .i32 (bits .xor .i32 (-1) (x / 2147483648)) 65535 % 4294967296 * (a * 257) % 4294967296 / 65535 = scaled16 (clip16 x) (257 * a) := by
  have b := clip16_le x
  rw [clip16_out' h0 h1 h, Int.mul_comm a 257]
  exact sc16_eq _ _ b.1 b.2 (by omega) (by omega)
theorem cyan_le (v w : Int) (v0 : 0 ≤ v) (v1 : v ≤ w) (w0 : 0 < w) : 0 ≤ (w - v) * 255 / w ∧ (w - v) * 255 / w ≤ 255 := by
  refine ⟨Int.ediv_nonneg (by omega) (by omega), ?_⟩
  have h : (w - v) * 255 < w * 256 := by omega
  have := Int.ediv_lt_of_lt_mul w0 (show (w - v) * 255 < 256 * w by omega)
  omega
theorem cyan_eq (v w : Int) (v0 : 0 ≤ v) (v1 : v ≤ w) (w0 : 0 < w) : (w - v) * 255 / w % 256 = cyanOf v w := by
  have b := cyan_le v w v0 v1 w0
  unfold cyanOf
  rw [if_neg (by omega)]
  omega

theorem cyanOf_bd (v w : Int) (v0 : 0 ≤ v) (v1 : v ≤ w) : 0 ≤ cyanOf v w ∧ cyanOf v w ≤ 255 := by
  unfold cyanOf
  split
  · omega
  · exact cyan_le v w v0 v1 (by omega)
theorem most_bd (r g b : Int) : r ≤ most r g b ∧ g ≤ most r g b ∧ b ≤ most r g b ∧ (most r g b = r ∨ most r g b = g ∨ most r g b = b) := by unfold most; omega
theorem max2 (a d : Int) (a0 : 0 ≤ a) (a1 : a ≤ 255) (d0 : 0 ≤ d) (d1 : d ≤ 255) : ∃ m : Int, (if a < d then d else a) = m ∧ a ≤ m ∧ d ≤ m ∧ 0 ≤ m ∧ m ≤ 255 := by
  refine ⟨_, rfl, ?_⟩
  split <;> omega
theorem max3 (r g b : Int) (r0 : 0 ≤ r) (r1 : r ≤ 255) (g0 : 0 ≤ g) (g1 : g ≤ 255) (b0 : 0 ≤ b) (b1 : b ≤ 255) :
    ∃ n m : Int, (if r < g then g else r) = n ∧ (if n < b then b else n) = m ∧ 0 ≤ n ∧ n ≤ 255 ∧ 0 ≤ m ∧ m ≤ 255 ∧ m = most r g b := by
  refine ⟨_, _, rfl, rfl, ?_⟩
  unfold most
  split <;> split <;> omega
theorem min3 (r g b : Int) (r0 : 0 ≤ r) (r1 : r ≤ 255) (g0 : 0 ≤ g) (g1 : g ≤ 255) (b0 : 0 ≤ b) (b1 : b ≤ 255) :
    ∃ n m : Int, (if g < r then g else r) = n ∧ (if b < n then b else n) = m ∧ 0 ≤ n ∧ n ≤ 255 ∧ 0 ≤ m ∧ m ≤ 255 ∧ m ≤ r ∧ m ≤ g ∧ m ≤ b ∧ (m = r ∨ m = g ∨ m = b) := by
  refine ⟨_, _, rfl, rfl, ?_⟩
  split <;> split <;> omega

theorem cyan_self (w : Int) : cyanOf w w = 0 := by
  unfold cyanOf
  split
  · rfl
  · rw [Int.sub_self, Int.zero_mul, Int.zero_ediv]

/-- a number of parts, kept within 0 and 255 wholes -/
def clamp (n : Int) : Int := if n < 0 then 0 else if n ≤ 25500000 then n else 25500000
theorem clamp_bd (n : Int) : 0 ≤ clamp n ∧ clamp n ≤ 25500000 := by unfold clamp; split <;> (try split) <;> omega
theorem clamp_eq (n : Int) : ∃ p q : Int, (if 25500000 < n then 25500000 else n) = p ∧ (if 0 < p then p else 0) = q ∧ q = clamp n := by
  refine ⟨_, _, rfl, rfl, ?_⟩
  unfold clamp
  split <;> split <;> (try split) <;> omega

/-- by how many parts a whole number differs from a number of parts -/
def off (v x : Int) : Int := if v * 100000 - x < 0 then -(v * 100000 - x) else v * 100000 - x
theorem off_le {v x n : Int} (h1 : v * 100000 - x ≤ n) (h2 : x - v * 100000 ≤ n) : off v x ≤ n := by unfold off; split <;> omega

end Go.Proofs.Ytfpngemkifhchaa.Col
