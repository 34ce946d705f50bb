/-
  The walks over laws.values and laws.same, and over the thin package's functions of 16-bit and of plain colours: what each call returns; nothing that was there is written.
-/
import Derived.Test.YtfpngemkifhchaaPick
import Derived.Test.YtfpngemkifhchaaPlain
namespace Go.Proofs.Ytfpngemkifhchaa
open Go.RowKit

theorem values_any (w : World) (p q s t : Int) :
    Calls Try.prog 20 #[.int .u32 p, .int .u32 q, .int .u32 s, .int .u32 t] w fun e w' =>
      e = .returned (.slice (some ⟨w.heap.size, 0, none⟩) 4 4) ∧ w' = w.alloc (.cells #[.int .u32 p, .int .u32 q, .int .u32 s, .int .u32 t] 35) := by
  go_enter Try.func20, Try.ntmps20
  go_wp2
  go_ret
  exact ⟨rfl, rfl⟩

def Same (w : World) (e : Ending) (w' : World) : Prop := e = .returned (.bool true) ∧ ∃ n, w' = w.drewN n

set_option maxHeartbeats 1000000 in
theorem same_any (w : World) (a b : Nat) (p q s t : Int)
    (a0 : w.cell? ⟨a, 0, none⟩ = some (.int .u32 p)) (a1 : w.cell? ⟨a, 1, none⟩ = some (.int .u32 q)) (a2 : w.cell? ⟨a, 2, none⟩ = some (.int .u32 s)) (a3 : w.cell? ⟨a, 3, none⟩ = some (.int .u32 t))
    (b0 : w.cell? ⟨b, 0, none⟩ = some (.int .u32 p)) (b1 : w.cell? ⟨b, 1, none⟩ = some (.int .u32 q)) (b2 : w.cell? ⟨b, 2, none⟩ = some (.int .u32 s)) (b3 : w.cell? ⟨b, 3, none⟩ = some (.int .u32 t)) :
    Calls Try.prog 19 #[.slice (some ⟨a, 0, none⟩) 4 4, .slice (some ⟨b, 0, none⟩) 4 4] w (Same w) := by
  go_enter Try.func19, Try.ntmps19
  go_wp2
  go_quiet (fail)
  go_wp2
  go_ret
  exact ⟨rfl, _, rfl⟩

theorem ret4 {k : IntKind} {p q s t p' q' s' t' : Int} (h1 : p = p') (h2 : q = q') (h3 : s = s') (h4 : t = t') :
    Ending.returned (.tuple #[.int k p, .int k q, .int k s, .int k t]) = .returned (.tuple #[.int k p', .int k q', .int k s', .int k t']) := by rw [h1, h2, h3, h4]
theorem ret3 {k : IntKind} {p q s p' q' s' : Int} (h1 : p = p') (h2 : q = q') (h3 : s = s') :
    Ending.returned (.tuple #[.int k p, .int k q, .int k s]) = .returned (.tuple #[.int k p', .int k q', .int k s']) := by rw [h1, h2, h3]

/-- Four values of 32 bits are returned; nothing that was there has turned. -/
def Gives4 (w : World) (p q s t : Int) (e : Ending) (w' : World) : Prop :=
  e = .returned (.tuple #[.int .u32 p, .int .u32 q, .int .u32 s, .int .u32 t]) ∧ Below w.heap.size w w'

set_option maxHeartbeats 1000000 in
theorem rgba64_call (w : World) (r g b a : Int) (_r0 : 0 ≤ r) (_r1 : r ≤ 65535) (_g0 : 0 ≤ g) (_g1 : g ≤ 65535) (_b0 : 0 ≤ b) (_b1 : b ≤ 65535) (_a0 : 0 ≤ a) (_a1 : a ≤ 65535) :
    Calls Try.prog 44 #[.agg #[.int .u16 r, .int .u16 g, .int .u16 b, .int .u16 a]] w (Gives4 w r g b a) := by
  have c0 : IntKind.u32.wrap r = r := IntWalk.u32_in _ (by omega)
  have c1 : IntKind.u32.wrap g = g := IntWalk.u32_in _ (by omega)
  have c2 : IntKind.u32.wrap b = b := IntWalk.u32_in _ (by omega)
  have c3 : IntKind.u32.wrap a = a := IntWalk.u32_in _ (by omega)
  go_enter Try.func44, Try.ntmps44
  go_wp2
  go_quiet (fail)
  go_wp2
  ((try simp only [Exit.inBlock, Exit.then]); refine bodyPost_ret (results_tmp4 rfl _ _ _) rfl ?_)
  exact ⟨rfl, below_drewN ((Below.refl _ _).alloc (Nat.le_refl _) _) _⟩

theorem rgba64_any (w : World) (r g b a : Int) (_r0 : 0 ≤ r) (_r1 : r ≤ 65535) (_g0 : 0 ≤ g) (_g1 : g ≤ 65535) (_b0 : 0 ≤ b) (_b1 : b ≤ 65535) (_a0 : 0 ≤ a) (_a1 : a ≤ 65535) :
    Calls Try.prog 22 #[.int .u16 r, .int .u16 g, .int .u16 b, .int .u16 a] w (Gives4 w r g b a) := by
  go_enter Try.func22, Try.ntmps22
  go_wp2_with fail
  refine (rgba64_call w r g b a _r0 _r1 _g0 _g1 _b0 _b1 _a0 _a1).mono ?_
  rintro e w1 ⟨rfl, hb⟩
  go_wp2
  ((try simp only [Exit.inBlock, Exit.then]); refine bodyPost_ret (results_tmp4 rfl _ _ _) rfl ?_)
  exact ⟨rfl, hb⟩

set_option maxHeartbeats 1000000 in
theorem alpha16_call (w : World) (a : Int) (_a0 : 0 ≤ a) (_a1 : a ≤ 65535) :
    Calls Try.prog 52 #[.agg #[.int .u16 a]] w (Gives4 w a a a a) := by
  go_enter Try.func52, Try.ntmps52
  go_wp2
  ((try simp only [Exit.inBlock, Exit.then]); refine bodyPost_ret (results_tmp4 rfl _ _ _) rfl ?_)
  exact ⟨rfl, (Below.refl _ _).alloc (Nat.le_refl _) _⟩

theorem alpha16_any (w : World) (a : Int) (_a0 : 0 ≤ a) (_a1 : a ≤ 65535) :
    Calls Try.prog 32 #[.int .u16 a] w (Gives4 w a a a a) := by
  go_enter Try.func32, Try.ntmps32
  go_wp2_with fail
  refine (alpha16_call w a _a0 _a1).mono ?_
  rintro e w1 ⟨rfl, hb⟩
  go_wp2
  ((try simp only [Exit.inBlock, Exit.then]); refine bodyPost_ret (results_tmp4 rfl _ _ _) rfl ?_)
  exact ⟨rfl, hb⟩

set_option maxHeartbeats 1000000 in
theorem gray16_call (w : World) (y : Int) (_y0 : 0 ≤ y) (_y1 : y ≤ 65535) :
    Calls Try.prog 48 #[.agg #[.int .u16 y]] w (Gives4 w y y y 65535) := by
  go_enter Try.func48, Try.ntmps48
  go_wp2
  ((try simp only [Exit.inBlock, Exit.then]); refine bodyPost_ret (results_tmp4 rfl _ _ _) rfl ?_)
  exact ⟨rfl, (Below.refl _ _).alloc (Nat.le_refl _) _⟩

theorem gray16_any (w : World) (y : Int) (_y0 : 0 ≤ y) (_y1 : y ≤ 65535) :
    Calls Try.prog 26 #[.int .u16 y] w (Gives4 w y y y 65535) := by
  go_enter Try.func26, Try.ntmps26
  go_wp2_with fail
  refine (gray16_call w y _y0 _y1).mono ?_
  rintro e w1 ⟨rfl, hb⟩
  go_wp2
  ((try simp only [Exit.inBlock, Exit.then]); refine bodyPost_ret (results_tmp4 rfl _ _ _) rfl ?_)
  exact ⟨rfl, hb⟩

set_option maxHeartbeats 1000000 in
theorem alpha_call (w : World) (a : Int) (_a0 : 0 ≤ a) (_a1 : a ≤ 255) :
    Calls Try.prog 51 #[.agg #[.int .u8 a]] w (Gives4 w (257 * a) (257 * a) (257 * a) (257 * a)) := by
  have o0 := Col.or8 a (by omega) (by omega)
  go_enter Try.func51, Try.ntmps51
  go_wp2
  ((try simp only [Exit.inBlock, Exit.then]); refine bodyPost_ret (results_tmp4 rfl _ _ _) rfl ?_)
  exact ⟨rfl, (Below.refl _ _).alloc (Nat.le_refl _) _⟩

theorem alpha_any (w : World) (a : Int) (_a0 : 0 ≤ a) (_a1 : a ≤ 255) :
    Calls Try.prog 31 #[.int .u8 a] w (Gives4 w (257 * a) (257 * a) (257 * a) (257 * a)) := by
  go_enter Try.func31, Try.ntmps31
  go_wp2_with fail
  refine (alpha_call w a _a0 _a1).mono ?_
  rintro e w1 ⟨rfl, hb⟩
  go_wp2
  ((try simp only [Exit.inBlock, Exit.then]); refine bodyPost_ret (results_tmp4 rfl _ _ _) rfl ?_)
  exact ⟨rfl, hb⟩

set_option maxHeartbeats 1000000 in
theorem gray_call (w : World) (y : Int) (_y0 : 0 ≤ y) (_y1 : y ≤ 255) :
    Calls Try.prog 47 #[.agg #[.int .u8 y]] w (Gives4 w (257 * y) (257 * y) (257 * y) 65535) := by
  have o0 := Col.or8 y (by omega) (by omega)
  go_enter Try.func47, Try.ntmps47
  go_wp2
  ((try simp only [Exit.inBlock, Exit.then]); refine bodyPost_ret (results_tmp4 rfl _ _ _) rfl ?_)
  exact ⟨rfl, (Below.refl _ _).alloc (Nat.le_refl _) _⟩

theorem gray_any (w : World) (y : Int) (_y0 : 0 ≤ y) (_y1 : y ≤ 255) :
    Calls Try.prog 25 #[.int .u8 y] w (Gives4 w (257 * y) (257 * y) (257 * y) 65535) := by
  go_enter Try.func25, Try.ntmps25
  go_wp2_with fail
  refine (gray_call w y _y0 _y1).mono ?_
  rintro e w1 ⟨rfl, hb⟩
  go_wp2
  ((try simp only [Exit.inBlock, Exit.then]); refine bodyPost_ret (results_tmp4 rfl _ _ _) rfl ?_)
  exact ⟨rfl, hb⟩

set_option maxHeartbeats 1000000 in
theorem rgba_call (w : World) (r g b a : Int) (_r0 : 0 ≤ r) (_r1 : r ≤ 255) (_g0 : 0 ≤ g) (_g1 : g ≤ 255) (_b0 : 0 ≤ b) (_b1 : b ≤ 255) (_a0 : 0 ≤ a) (_a1 : a ≤ 255) :
    Calls Try.prog 46 #[.agg #[.int .u8 r, .int .u8 g, .int .u8 b, .int .u8 a]] w (Gives4 w (257 * r) (257 * g) (257 * b) (257 * a)) := by
  have o0 := Col.or8 r (by omega) (by omega)
  have o1 := Col.or8 g (by omega) (by omega)
  have o2 := Col.or8 b (by omega) (by omega)
  have o3 := Col.or8 a (by omega) (by omega)
  go_enter Try.func46, Try.ntmps46
  go_wp2
  ((try simp only [Exit.inBlock, Exit.then]); refine bodyPost_ret (results_tmp4 rfl _ _ _) rfl ?_)
  exact ⟨rfl, (Below.refl _ _).alloc (Nat.le_refl _) _⟩

theorem rgba_any (w : World) (r g b a : Int) (_r0 : 0 ≤ r) (_r1 : r ≤ 255) (_g0 : 0 ≤ g) (_g1 : g ≤ 255) (_b0 : 0 ≤ b) (_b1 : b ≤ 255) (_a0 : 0 ≤ a) (_a1 : a ≤ 255) :
    Calls Try.prog 24 #[.int .u8 r, .int .u8 g, .int .u8 b, .int .u8 a] w (Gives4 w (257 * r) (257 * g) (257 * b) (257 * a)) := by
  go_enter Try.func24, Try.ntmps24
  go_wp2_with fail
  refine (rgba_call w r g b a _r0 _r1 _g0 _g1 _b0 _b1 _a0 _a1).mono ?_
  rintro e w1 ⟨rfl, hb⟩
  go_wp2
  ((try simp only [Exit.inBlock, Exit.then]); refine bodyPost_ret (results_tmp4 rfl _ _ _) rfl ?_)
  exact ⟨rfl, hb⟩



set_option maxHeartbeats 2000000 in
theorem nrgba_call (w : World) (r g b a : Int) (_r0 : 0 ≤ r) (_r1 : r ≤ 255) (_g0 : 0 ≤ g) (_g1 : g ≤ 255) (_b0 : 0 ≤ b) (_b1 : b ≤ 255) (_a0 : 0 ≤ a) (_a1 : a ≤ 255) :
    Calls Try.prog 45 #[.agg #[.int .u8 r, .int .u8 g, .int .u8 b, .int .u8 a]] w (Gives4 w (Col.scaled8 r a) (Col.scaled8 g a) (Col.scaled8 b a) (257 * a)) := by
  have o0 := Col.or8 r (by omega) (by omega)
  have o1 := Col.or8 g (by omega) (by omega)
  have o2 := Col.or8 b (by omega) (by omega)
  have o3 := Col.or8 a (by omega) (by omega)
  go_enter Try.func45, Try.ntmps45
  go_wp2
  ((try simp only [Exit.inBlock, Exit.then]); refine bodyPost_ret (results_tmp4 rfl _ _ _) rfl ?_)
  exact ⟨ret4 (Col.sc8_eq r a _r0 _r1 _a0 _a1) (Col.sc8_eq g a _g0 _g1 _a0 _a1) (Col.sc8_eq b a _b0 _b1 _a0 _a1) rfl, (Below.refl _ _).alloc (Nat.le_refl _) _⟩

theorem nrgba_any (w : World) (r g b a : Int) (_r0 : 0 ≤ r) (_r1 : r ≤ 255) (_g0 : 0 ≤ g) (_g1 : g ≤ 255) (_b0 : 0 ≤ b) (_b1 : b ≤ 255) (_a0 : 0 ≤ a) (_a1 : a ≤ 255) :
    Calls Try.prog 23 #[.int .u8 r, .int .u8 g, .int .u8 b, .int .u8 a] w (Gives4 w (Col.scaled8 r a) (Col.scaled8 g a) (Col.scaled8 b a) (257 * a)) := by
  go_enter Try.func23, Try.ntmps23
  go_wp2_with fail
  refine (nrgba_call w r g b a _r0 _r1 _g0 _g1 _b0 _b1 _a0 _a1).mono ?_
  rintro e w1 ⟨rfl, hb⟩
  go_wp2
  ((try simp only [Exit.inBlock, Exit.then]); refine bodyPost_ret (results_tmp4 rfl _ _ _) rfl ?_)
  exact ⟨rfl, hb⟩

set_option maxHeartbeats 2000000 in
theorem nrgba64_call (w : World) (r g b a : Int) (_r0 : 0 ≤ r) (_r1 : r ≤ 65535) (_g0 : 0 ≤ g) (_g1 : g ≤ 65535) (_b0 : 0 ≤ b) (_b1 : b ≤ 65535) (_a0 : 0 ≤ a) (_a1 : a ≤ 65535) :
    Calls Try.prog 43 #[.agg #[.int .u16 r, .int .u16 g, .int .u16 b, .int .u16 a]] w (Gives4 w (Col.scaled16 r a) (Col.scaled16 g a) (Col.scaled16 b a) a) := by
  go_enter Try.func43, Try.ntmps43
  go_wp2
  ((try simp only [Exit.inBlock, Exit.then]); refine bodyPost_ret (results_tmp4 rfl _ _ _) rfl ?_)
  exact ⟨ret4 (Col.sc16_eq r a _r0 _r1 _a0 _a1) (Col.sc16_eq g a _g0 _g1 _a0 _a1) (Col.sc16_eq b a _b0 _b1 _a0 _a1) rfl, (Below.refl _ _).alloc (Nat.le_refl _) _⟩

theorem nrgba64_any (w : World) (r g b a : Int) (_r0 : 0 ≤ r) (_r1 : r ≤ 65535) (_g0 : 0 ≤ g) (_g1 : g ≤ 65535) (_b0 : 0 ≤ b) (_b1 : b ≤ 65535) (_a0 : 0 ≤ a) (_a1 : a ≤ 65535) :
    Calls Try.prog 21 #[.int .u16 r, .int .u16 g, .int .u16 b, .int .u16 a] w (Gives4 w (Col.scaled16 r a) (Col.scaled16 g a) (Col.scaled16 b a) a) := by
  go_enter Try.func21, Try.ntmps21
  go_wp2_with fail
  refine (nrgba64_call w r g b a _r0 _r1 _g0 _g1 _b0 _b1 _a0 _a1).mono ?_
  rintro e w1 ⟨rfl, hb⟩
  go_wp2
  ((try simp only [Exit.inBlock, Exit.then]); refine bodyPost_ret (results_tmp4 rfl _ _ _) rfl ?_)
  exact ⟨rfl, hb⟩

end Go.Proofs.Ytfpngemkifhchaa
