/-
  The walks over the drawing of values: spec.border, some, raw and Draw3 .. DrawWide return SOME values of their kinds, for every code, and write nothing that was there.
-/
import Derived.Test.YtfpngemkifhchaaPick
namespace Go.Proofs.Ytfpngemkifhchaa
open Go.RowKit

def Got8 (w0 : World) (a : Option Addr) (len cap : Nat) (p q : Nat) (e : Ending) (w' : World) : Prop :=
  ∃ x : Int, ∃ r : Nat, 0 ≤ x ∧ x ≤ 255 ∧ p ≤ r ∧ r ≤ q ∧ e = .returned (.int .u8 x) ∧ Drawing w0 a len cap r w'

set_option maxHeartbeats 400000 in
theorem border_any (w0 w : World) (a : Option Addr) (len cap : Nat) (zs : List Int) (p : Nat) (hr : IsRow .u8 w0 a len cap zs) (hd : Drawing w0 a len cap p w) (p1 : p ≤ 1000) :
    Calls Try.prog 55 #[.pointer (some ⟨w0.heap.size, 0, none⟩)] w (Got8 w0 a len cap p (p + 1)) := by
  have HR := Lib.hid hr
  have HD := Lib.hid hd
  have hlt : w0.heap.size < w.heap.size := block_lt_of_cell (a := ⟨w0.heap.size, 1, none⟩) hd.place
  clear hr hd
  go_enter Try.func55, Try.ntmps55
  go_wp2_with fail
  refine (pick_any w0 _ a len cap zs p 8 HR.out (HD.out.alloc _) p1 (by omega) (by omega)).mono ?_
  rintro e w1 ⟨x, x0, x1, rfl, hd1, hc⟩
  have hv : ∃ v : Int, w1.cell? ⟨w.heap.size, x.toNat, none⟩ = some (.int .u8 v) ∧ 0 ≤ v ∧ v ≤ 255 := by
    rw [hc _ _ (by omega), World.cell?_alloc_new]
    obtain rfl | rfl | rfl | rfl | rfl | rfl | rfl | rfl : x = 0 ∨ x = 1 ∨ x = 2 ∨ x = 3 ∨ x = 4 ∨ x = 5 ∨ x = 6 ∨ x = 7 := by omega
    all_goals exact ⟨_, rfl, by omega, by omega⟩
  obtain ⟨v, hv, v0, v1⟩ := hv
  have HD1 := Lib.hid hd1
  clear hc hd1
  go_wp2
  go_ret
  exact ⟨v, p + 1, v0, v1, by omega, by omega, rfl, by simpa using HD1.out⟩

set_option maxHeartbeats 400000 in
theorem some_any (w0 w : World) (a : Option Addr) (len cap : Nat) (zs : List Int) (p : Nat) (hr : IsRow .u8 w0 a len cap zs) (hd : Drawing w0 a len cap p w) (p1 : p ≤ 900) :
    Calls Try.prog 38 #[.pointer (some ⟨w0.heap.size, 0, none⟩)] w (Got8 w0 a len cap p (p + 2)) := by
  have HR := Lib.hid hr
  have HD := Lib.hid hd
  clear hr hd
  go_enter Try.func38, Try.ntmps38
  go_wp2_with fail
  refine (pick_any w0 _ a len cap zs p 3 HR.out HD.out (by omega) (by omega) (by omega)).mono ?_
  rintro e w1 ⟨x, x0, x1, rfl, hd1, _⟩
  have HD1 : Hid (Drawing w0 a len cap ((p + 1 : Nat) : Int) w1) := Lib.hid (by simpa using hd1)
  clear hd1
  by_cases hx : x = 0
  · have hb : (x == 0) = true := by simp [hx]
    clear hx
    go_wp2_with fail
    refine (border_any w0 _ a len cap zs (p + 1) HR.out HD1.out (by omega)).mono ?_
    rintro e w2 ⟨v, r, v0, v1, r0, r1, rfl, hd2⟩
    have HD2 := Lib.hid hd2
    clear hd2
    go_wp2
    go_ret
    exact ⟨v, r, v0, v1, by omega, by omega, rfl, HD2.out⟩
  · have hb : (x == 0) = false := by simp [hx]
    clear hx
    go_wp2_with fail
    refine (pick_any w0 _ a len cap zs (p + 1) 256 HR.out HD1.out (by omega) (by omega) (by omega)).mono ?_
    rintro e w2 ⟨v, v0, v1, rfl, hd2, _⟩
    have HD2 := Lib.hid hd2
    clear hd2
    go_wp2
    go_ret
    exact ⟨v, p + 1 + 1, v0, by omega, by omega, by omega, rfl, by simpa using HD2.out⟩

def RawSaid (len : Nat) (n : Int) (w : World) (e : Ending) (w' : World) : Prop :=
  ∃ b : Bool, e = .returned (.bool b) ∧ w = w' ∧ (b = true → (len : Int) = n + 1)

set_option maxHeartbeats 400000 in
theorem raw_any (w : World) (a : Option Addr) (len cap : Nat) (zs : List Int) (n : Int) (hr : IsRow .u8 w a len cap zs) (n0 : 1 ≤ n) (n1 : n ≤ 100) :
    Calls Try.prog 37 #[.slice a len cap, .int .i64 n] w (RawSaid len n w) := by
  by_cases hl : (len : Int) = n + 1
  · rcases hr.open8 with ⟨h0, _⟩ | ⟨b, off, rfl, h0, _, hm, hb, hc⟩
    · omega
    · obtain ⟨v, hv, v0, v1⟩ := hc 0 h0
      have hv0 : w.cell? ⟨b, off, none⟩ = some (.int .u8 v) := hv
      have hl1 : ((len : Int) == n + 1) = true := by simp [hl]
      have hl2 : (0 : Int) < (len : Int) := by omega
      have HL := Lib.hid hl
      clear hl hr hc hv hb
      by_cases hz : v % 4 = 0
      · have hz1 : (v % 4 == 0) = true := by simp [hz]
        have hz2 : (v.tmod 4 == 0) = true := by rw [Int.tmod_eq_emod_of_nonneg v0]; simp [hz]
        clear hz
        go_enter Try.func37, Try.ntmps37
        go_wp2
        go_ret
        exact ⟨true, rfl, rfl, fun _ => HL.out⟩
      · have hz1 : (v % 4 == 0) = false := by simp [hz]
        have hz2 : (v.tmod 4 == 0) = false := by rw [Int.tmod_eq_emod_of_nonneg v0]; simp [hz]
        clear hz
        go_enter Try.func37, Try.ntmps37
        go_wp2
        go_ret
        exact ⟨false, rfl, rfl, fun h => by cases h⟩
  · have hl1 : ((len : Int) == n + 1) = false := by simp [hl]
    clear hl hr
    go_enter Try.func37, Try.ntmps37
    go_wp2
    go_ret
    exact ⟨false, rfl, rfl, fun h => by cases h⟩

theorem Drawing.start (w : World) (a : Option Addr) (len cap : Nat) (T : TypeId) : Drawing w a len cap ((0 : Nat) : Int) (w.alloc (.cells #[.slice a len cap, .int .i64 0] T)) := by
  refine ⟨(Below.refl _ _).alloc (Nat.le_refl _) _, by simp, by simp, ?_⟩
  simp

def Drawn3 (w : World) (e : Ending) (w' : World) : Prop :=
  ∃ a b c : Int, 0 ≤ a ∧ a ≤ 255 ∧ 0 ≤ b ∧ b ≤ 255 ∧ 0 ≤ c ∧ c ≤ 255 ∧ e = .returned (.tuple #[.int .u8 a, .int .u8 b, .int .u8 c]) ∧ Below w.heap.size w w'

set_option maxHeartbeats 1000000 in
theorem draw3 (w : World) (a : Option Addr) (len cap : Nat) (zs : List Int) (hr : IsRow .u8 w a len cap zs) :
    Calls Try.prog 15 #[.slice a len cap] w (Drawn3 w) := by
  have HR := Lib.hid hr
  clear hr
  go_enter Try.func15, Try.ntmps15
  go_wp2_with fail
  refine (raw_any w a len cap zs 3 HR.out (by omega) (by omega)).mono ?_
  rintro e w1 ⟨b, rfl, rfl, hb⟩
  cases b with
  | true =>
    have hl := hb rfl
    rcases HR.out.open8 with ⟨h0, _⟩ | ⟨b, off, rfl, h0, _, hm, _, hc⟩
    · omega
    · obtain ⟨x, hx, x0, x1⟩ := hc 1 (by omega)
      obtain ⟨y, hy, y0, y1⟩ := hc 2 (by omega)
      obtain ⟨z, hz, z0, z1⟩ := hc 3 (by omega)
      obtain rfl : len = 4 := by omega
      clear hc hb hl h0 hm HR
      go_wp2
      go_quiet (fail)
      go_wp2
      go_ret3
      exact ⟨x, y, z, x0, x1, y0, y1, z0, z1, rfl, below_drewN (Below.refl _ _) _⟩
  | false =>
    clear hb
    go_wp2_with fail
    refine (some_any w _ a len cap zs 0 HR.out (Drawing.start w a len cap _) (by omega)).mono ?_
    rintro e w2 ⟨x, r, x0, x1, r0, r1, rfl, hd2⟩
    have HD2 := Lib.hid hd2
    clear hd2
    go_wp2_with fail
    refine (some_any w _ a len cap zs r HR.out HD2.out (by omega)).mono ?_
    rintro e w3 ⟨y, r', y0, y1, r0', r1', rfl, hd3⟩
    have HD3 := Lib.hid hd3
    clear hd3 HD2
    go_wp2_with fail
    refine (some_any w _ a len cap zs r' HR.out HD3.out (by omega)).mono ?_
    rintro e w4 ⟨z, r'', z0, z1, r0'', r1'', rfl, hd4⟩
    have HD4 := Lib.hid hd4
    clear hd4 HD3
    go_wp2_with fail
    refine (pick_any w _ a len cap zs r'' 4 HR.out HD4.out (by omega) (by omega) (by omega)).mono ?_
    rintro e w5 ⟨t, t0, t1, rfl, hd5, _⟩
    have HD5 := Lib.hid hd5.below
    clear hd5 HD4
    by_cases ht : t = 0
    · have hb : (t == 0) = true := by simp [ht]
      clear ht
      go_wp2
      go_ret3
      exact ⟨x, x, z, x0, x1, x0, x1, z0, z1, rfl, HD5.out⟩
    · have hb : (t == 0) = false := by simp [ht]
      clear ht
      go_wp2
      go_ret3
      exact ⟨x, y, z, x0, x1, y0, y1, z0, z1, rfl, HD5.out⟩

def Drawn4 (w : World) (e : Ending) (w' : World) : Prop :=
  ∃ a b c d : Int, 0 ≤ a ∧ a ≤ 255 ∧ 0 ≤ b ∧ b ≤ 255 ∧ 0 ≤ c ∧ c ≤ 255 ∧ 0 ≤ d ∧ d ≤ 255 ∧ e = .returned (.tuple #[.int .u8 a, .int .u8 b, .int .u8 c, .int .u8 d]) ∧ Below w.heap.size w w'

set_option maxHeartbeats 1000000 in
theorem draw4 (w : World) (a : Option Addr) (len cap : Nat) (zs : List Int) (hr : IsRow .u8 w a len cap zs) :
    Calls Try.prog 27 #[.slice a len cap] w (Drawn4 w) := by
  have HR := Lib.hid hr
  clear hr
  go_enter Try.func27, Try.ntmps27
  go_wp2_with fail
  refine (raw_any w a len cap zs 4 HR.out (by omega) (by omega)).mono ?_
  rintro e w1 ⟨b, rfl, rfl, hb⟩
  cases b with
  | true =>
    have hl := hb rfl
    rcases HR.out.open8 with ⟨h0, _⟩ | ⟨b, off, rfl, h0, _, hm, _, hc⟩
    · omega
    · obtain ⟨x, hx, x0, x1⟩ := hc 1 (by omega)
      obtain ⟨y, hy, y0, y1⟩ := hc 2 (by omega)
      obtain ⟨z, hz, z0, z1⟩ := hc 3 (by omega)
      obtain ⟨t, ht, t0, t1⟩ := hc 4 (by omega)
      obtain rfl : len = 5 := by omega
      clear hc hb hl h0 hm HR
      go_wp2
      go_quiet (fail)
      go_wp2
      ((try simp only [Exit.inBlock, Exit.then]); refine bodyPost_ret (results_tmp4 rfl _ _ _) rfl ?_)
      exact ⟨x, y, z, t, x0, x1, y0, y1, z0, z1, t0, t1, rfl, below_drewN (Below.refl _ _) _⟩
  | false =>
    clear hb
    go_wp2_with fail
    refine (some_any w _ a len cap zs 0 HR.out (Drawing.start w a len cap _) (by omega)).mono ?_
    rintro e v1 ⟨x, r1, x0, x1, i1, j1, rfl, hd⟩
    have HD1 := Lib.hid hd
    clear hd
    go_wp2_with fail
    refine (some_any w _ a len cap zs r1 HR.out HD1.out (by omega)).mono ?_
    rintro e v2 ⟨y, r2, y0, y1, i2, j2, rfl, hd⟩
    have HD2 := Lib.hid hd
    clear hd HD1
    go_wp2_with fail
    refine (some_any w _ a len cap zs r2 HR.out HD2.out (by omega)).mono ?_
    rintro e v3 ⟨z, r3, z0, z1, i3, j3, rfl, hd⟩
    have HD3 := Lib.hid hd
    clear hd HD2
    go_wp2_with fail
    refine (some_any w _ a len cap zs r3 HR.out HD3.out (by omega)).mono ?_
    rintro e v4 ⟨t, r4, t0, t1, i4, j4, rfl, hd⟩
    have HD4 := Lib.hid hd
    clear hd HD3
    go_wp2
    ((try simp only [Exit.inBlock, Exit.then]); refine bodyPost_ret (results_tmp4 rfl _ _ _) rfl ?_)
    exact ⟨x, y, z, t, x0, x1, y0, y1, z0, z1, t0, t1, rfl, HD4.out.below⟩

def Drawn5 (w : World) (e : Ending) (w' : World) : Prop :=
  ∃ a b c d f : Int, 0 ≤ a ∧ a ≤ 255 ∧ 0 ≤ b ∧ b ≤ 255 ∧ 0 ≤ c ∧ c ≤ 255 ∧ 0 ≤ d ∧ d ≤ 255 ∧ 0 ≤ f ∧ f ≤ 255 ∧ e = .returned (.tuple #[.int .u8 a, .int .u8 b, .int .u8 c, .int .u8 d, .int .u8 f]) ∧ Below w.heap.size w w'


def Got16 (w0 : World) (a : Option Addr) (len cap : Nat) (p q : Nat) (e : Ending) (w' : World) : Prop :=
  ∃ x : Int, ∃ r : Nat, 0 ≤ x ∧ x ≤ 65535 ∧ p ≤ r ∧ r ≤ q ∧ e = .returned (.int .u16 x) ∧ Drawing w0 a len cap r w'

set_option maxHeartbeats 1000000 in
theorem some16_any (w0 w : World) (a : Option Addr) (len cap : Nat) (zs : List Int) (p : Nat) (hr : IsRow .u8 w0 a len cap zs) (hd : Drawing w0 a len cap p w) (p1 : p ≤ 900) :
    Calls Try.prog 42 #[.pointer (some ⟨w0.heap.size, 0, none⟩)] w (Got16 w0 a len cap p (p + 3)) := by
  have HR := Lib.hid hr
  have HD := Lib.hid hd
  clear hr hd
  go_enter Try.func42, Try.ntmps42
  go_wp2_with fail
  refine (pick_any w0 _ a len cap zs p 4 HR.out HD.out (by omega) (by omega) (by omega)).mono ?_
  rintro e w1 ⟨x, x0, x1, rfl, hd1, _⟩
  have hlt : w0.heap.size < w1.heap.size := block_lt_of_cell (a := ⟨w0.heap.size, 1, none⟩) hd1.place
  have HD1 : Hid (Drawing w0 a len cap ((p + 1 : Nat) : Int) w1) := Lib.hid (by simpa using hd1)
  clear hd1
  by_cases hx : x = 0
  · have hb : (x == 0) = true := by simp [hx]
    clear hx
    go_wp2_with fail
    refine (pick_any w0 _ a len cap zs (p + 1) 9 HR.out (HD1.out.alloc _) (by omega) (by omega) (by omega)).mono ?_
    rintro e w2 ⟨y, y0, y1, rfl, hd2, hc⟩
    have hv : ∃ v : Int, w2.cell? ⟨w1.heap.size, y.toNat, none⟩ = some (.int .u16 v) ∧ 0 ≤ v ∧ v ≤ 65535 := by
      rw [hc _ _ (by omega), World.cell?_alloc_new]
      obtain rfl | rfl | rfl | rfl | rfl | rfl | rfl | rfl | rfl : y = 0 ∨ y = 1 ∨ y = 2 ∨ y = 3 ∨ y = 4 ∨ y = 5 ∨ y = 6 ∨ y = 7 ∨ y = 8 := by omega
      all_goals exact ⟨_, rfl, by omega, by omega⟩
    obtain ⟨v, hv, v0, v1⟩ := hv
    have HD2 := Lib.hid hd2
    clear hc hd2
    go_wp2
    go_ret
    exact ⟨v, p + 1 + 1, v0, v1, by omega, by omega, rfl, by simpa using HD2.out⟩
  · by_cases hy : x = 1
    · have hb : (x == 0) = false := by simp [hx]
      have hb1 : (x == 1) = true := by simp [hy]
      clear hx hy
      go_wp2_with fail
      refine (pick_any w0 _ a len cap zs (p + 1) 256 HR.out HD1.out (by omega) (by omega) (by omega)).mono ?_
      rintro e w2 ⟨v, v0, v1, rfl, hd2, _⟩
      have HD2 := Lib.hid hd2
      clear hd2
      go_wp2
      go_ret
      exact ⟨257 * v, p + 1 + 1, by omega, by omega, by omega, by omega, rfl, by simpa using HD2.out⟩
    · have hb : (x == 0) = false := by simp [hx]
      have hb1 : (x == 1) = false := by simp [hy]
      clear hx hy
      go_wp2_with fail
      refine (pick_any w0 _ a len cap zs (p + 1) 256 HR.out HD1.out (by omega) (by omega) (by omega)).mono ?_
      rintro e w2 ⟨v, v0, v1, rfl, hd2, _⟩
      have HD2 : Hid (Drawing w0 a len cap ((p + 1 + 1 : Nat) : Int) w2) := Lib.hid (by simpa using hd2)
      clear hd2
      go_wp2_with fail
      refine (pick_any w0 _ a len cap zs (p + 1 + 1) 256 HR.out HD2.out (by omega) (by omega) (by omega)).mono ?_
      rintro e w3 ⟨u, u0, u1, rfl, hd3, _⟩
      have HD3 := Lib.hid hd3
      clear hd3
      go_wp2
      go_ret
      exact ⟨v * 256 + u, p + 1 + 1 + 1, by omega, by omega, by omega, by omega, rfl, by simpa using HD3.out⟩

def DrawnWide (w : World) (e : Ending) (w' : World) : Prop :=
  ∃ a b c d : Int, 0 ≤ a ∧ a ≤ 65535 ∧ 0 ≤ b ∧ b ≤ 65535 ∧ 0 ≤ c ∧ c ≤ 65535 ∧ 0 ≤ d ∧ d ≤ 65535 ∧ e = .returned (.tuple #[.int .u16 a, .int .u16 b, .int .u16 c, .int .u16 d]) ∧ Below w.heap.size w w'

set_option maxHeartbeats 2000000 in
theorem drawWide (w : World) (a : Option Addr) (len cap : Nat) (zs : List Int) (hr : IsRow .u8 w a len cap zs) :
    Calls Try.prog 18 #[.slice a len cap] w (DrawnWide w) := by
  have HR := Lib.hid hr
  clear hr
  go_enter Try.func18, Try.ntmps18
  go_wp2_with fail
  refine (raw_any w a len cap zs 8 HR.out (by omega) (by omega)).mono ?_
  rintro e w1 ⟨b, rfl, rfl, hb⟩
  cases b with
  | true =>
    have hl := hb rfl
    rcases HR.out.open8 with ⟨h0, _⟩ | ⟨b, off, rfl, h0, _, hm, _, hc⟩
    · omega
    · obtain ⟨x0, hx0, l0, u0⟩ := hc 1 (by omega)
      obtain ⟨x1, hx1, l1, u1⟩ := hc 2 (by omega)
      obtain ⟨x2, hx2, l2, u2⟩ := hc 3 (by omega)
      obtain ⟨x3, hx3, l3, u3⟩ := hc 4 (by omega)
      obtain ⟨x4, hx4, l4, u4⟩ := hc 5 (by omega)
      obtain ⟨x5, hx5, l5, u5⟩ := hc 6 (by omega)
      obtain ⟨x6, hx6, l6, u6⟩ := hc 7 (by omega)
      obtain ⟨x7, hx7, l7, u7⟩ := hc 8 (by omega)
      obtain rfl : len = 9 := by omega
      clear hc hb hl h0 hm HR
      have c0 : IntKind.u16.wrap x0 = x0 := IntWalk.u16_in _ (by omega)
      have c1 : IntKind.u16.wrap x1 = x1 := IntWalk.u16_in _ (by omega)
      have c2 : IntKind.u16.wrap x2 = x2 := IntWalk.u16_in _ (by omega)
      have c3 : IntKind.u16.wrap x3 = x3 := IntWalk.u16_in _ (by omega)
      have c4 : IntKind.u16.wrap x4 = x4 := IntWalk.u16_in _ (by omega)
      have c5 : IntKind.u16.wrap x5 = x5 := IntWalk.u16_in _ (by omega)
      have c6 : IntKind.u16.wrap x6 = x6 := IntWalk.u16_in _ (by omega)
      have c7 : IntKind.u16.wrap x7 = x7 := IntWalk.u16_in _ (by omega)
      have m0 : IntKind.u16.wrap (x0 * 256) = x0 * 256 := IntWalk.u16_in _ (by omega)
      have s0 : IntKind.u16.wrap (x0 * 256 + x1) = x0 * 256 + x1 := IntWalk.u16_in _ (by omega)
      have m2 : IntKind.u16.wrap (x2 * 256) = x2 * 256 := IntWalk.u16_in _ (by omega)
      have s2 : IntKind.u16.wrap (x2 * 256 + x3) = x2 * 256 + x3 := IntWalk.u16_in _ (by omega)
      have m4 : IntKind.u16.wrap (x4 * 256) = x4 * 256 := IntWalk.u16_in _ (by omega)
      have s4 : IntKind.u16.wrap (x4 * 256 + x5) = x4 * 256 + x5 := IntWalk.u16_in _ (by omega)
      have m6 : IntKind.u16.wrap (x6 * 256) = x6 * 256 := IntWalk.u16_in _ (by omega)
      have s6 : IntKind.u16.wrap (x6 * 256 + x7) = x6 * 256 + x7 := IntWalk.u16_in _ (by omega)
      go_wp2
      go_quiet (fail)
      go_wp2
      ((try simp only [Exit.inBlock, Exit.then]); refine bodyPost_ret (results_tmp4 rfl _ _ _) rfl ?_)
      exact ⟨x0 * 256 + x1, x2 * 256 + x3, x4 * 256 + x5, x6 * 256 + x7, by omega, by omega, by omega, by omega, by omega, by omega, by omega, by omega, rfl, below_drewN (Below.refl _ _) _⟩
  | false =>
    clear hb
    go_wp2_with fail
    refine (some16_any w _ a len cap zs 0 HR.out (Drawing.start w a len cap _) (by omega)).mono ?_
    rintro e v1 ⟨x, r1, x0, x1, i1, j1, rfl, hd⟩
    have HD1 := Lib.hid hd
    clear hd
    go_wp2_with fail
    refine (some16_any w _ a len cap zs r1 HR.out HD1.out (by omega)).mono ?_
    rintro e v2 ⟨y, r2, y0, y1, i2, j2, rfl, hd⟩
    have HD2 := Lib.hid hd
    clear hd HD1
    go_wp2_with fail
    refine (some16_any w _ a len cap zs r2 HR.out HD2.out (by omega)).mono ?_
    rintro e v3 ⟨z, r3, z0, z1, i3, j3, rfl, hd⟩
    have HD3 := Lib.hid hd
    clear hd HD2
    go_wp2_with fail
    refine (some16_any w _ a len cap zs r3 HR.out HD3.out (by omega)).mono ?_
    rintro e v4 ⟨t, r4, t0, t1, i4, j4, rfl, hd⟩
    have HD4 := Lib.hid hd
    clear hd HD3
    go_wp2
    ((try simp only [Exit.inBlock, Exit.then]); refine bodyPost_ret (results_tmp4 rfl _ _ _) rfl ?_)
    exact ⟨x, y, z, t, x0, x1, y0, y1, z0, z1, t0, t1, rfl, HD4.out.below⟩

end Go.Proofs.Ytfpngemkifhchaa
