/-
  The walks over laws.values and laws.same, and over the thin package's functions of 16-bit and of plain colours: what each call returns; nothing that was there is written.
-/
import Derived.Test.YtcpjngfiefkodaaPick
import Derived.Test.YtcpjngfiefkodaaPlain
namespace Go.Proofs.Ytcpjngfiefkodaa
open Go.RowKit



theorem ret4 {k : IntKind} {p q s t p' q' s' t' : Int} (h1 : p = p') (h2 : q = q') (h3 : s = s') (h4 : t = t') :
    Ending.returned (.tuple #[.int k p, .int k q, .int k s, .int k t]) = .returned (.tuple #[.int k p', .int k q', .int k s', .int k t']) := by rw [h1, h2, h3, h4]
theorem ret3 {k : IntKind} {p q s p' q' s' : Int} (h1 : p = p') (h2 : q = q') (h3 : s = s') :
    Ending.returned (.tuple #[.int k p, .int k q, .int k s]) = .returned (.tuple #[.int k p', .int k q', .int k s']) := by rw [h1, h2, h3]

/-- Four values of 32 bits are returned; nothing that was there has turned. -/
def Gives4 (w : World) (p q s t : Int) (e : Ending) (w' : World) : Prop :=
  e = .returned (.tuple #[.int .u32 p, .int .u32 q, .int .u32 s, .int .u32 t]) ∧ Below w.heap.size w w'













set_option maxHeartbeats 1000000 in
theorem cmyk_call (w : World) (c m y k : Int) (_c0 : 0 ≤ c) (_c1 : c ≤ 255) (_m0 : 0 ≤ m) (_m1 : m ≤ 255) (_y0 : 0 ≤ y) (_y1 : y ≤ 255) (_k0 : 0 ≤ k) (_k1 : k ≤ 255) :
    Calls Try.prog 32 #[.agg #[.int .u8 c, .int .u8 m, .int .u8 y, .int .u8 k]] w (Gives4 w (Col.ink16 c k) (Col.ink16 m k) (Col.ink16 y k) 65535) := by
  go_enter Try.func32, Try.ntmps32
  go_wp2
  ((try simp only [Exit.inBlock, Exit.then]); refine bodyPost_ret (results_tmp4 rfl _ _ _) rfl ?_)
  exact ⟨ret4 (Col.ink_eq c k _c0 _c1 _k0 _k1) (Col.ink_eq m k _m0 _m1 _k0 _k1) (Col.ink_eq y k _y0 _y1 _k0 _k1) rfl, (Below.refl _ _).alloc (Nat.le_refl _) _⟩

theorem cmyk_any (w : World) (c m y k : Int) (_c0 : 0 ≤ c) (_c1 : c ≤ 255) (_m0 : 0 ≤ m) (_m1 : m ≤ 255) (_y0 : 0 ≤ y) (_y1 : y ≤ 255) (_k0 : 0 ≤ k) (_k1 : k ≤ 255) :
    Calls Try.prog 19 #[.int .u8 c, .int .u8 m, .int .u8 y, .int .u8 k] w (Gives4 w (Col.ink16 c k) (Col.ink16 m k) (Col.ink16 y k) 65535) := by
  go_enter Try.func19, Try.ntmps19
  go_wp2_with fail
  refine (cmyk_call w c m y k _c0 _c1 _m0 _m1 _y0 _y1 _k0 _k1).mono ?_
  rintro e w1 ⟨rfl, hb⟩
  go_wp2
  ((try simp only [Exit.inBlock, Exit.then]); refine bodyPost_ret (results_tmp4 rfl _ _ _) rfl ?_)
  exact ⟨rfl, hb⟩





end Go.Proofs.Ytcpjngfiefkodaa
