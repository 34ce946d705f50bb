/-
  The walks over laws.values and laws.same, and over the thin package's functions of 16-bit and of plain colours: what each call returns; nothing that was there is written.
-/
import Derived.Test.YtpjplkgfbjfokaaPick
import Derived.Test.YtpjplkgfbjfokaaPlain
namespace Go.Proofs.Ytpjplkgfbjfokaa
open Go.RowKit



theorem ret4 {k : IntKind} {p q s t p' q' s' t' : Int} (h1 : p = p') (h2 : q = q') (h3 : s = s') (h4 : t = t') :
    Ending.returned (.tuple #[.int k p, .int k q, .int k s, .int k t]) = .returned (.tuple #[.int k p', .int k q', .int k s', .int k t']) := by rw [h1, h2, h3, h4]
theorem ret3 {k : IntKind} {p q s p' q' s' : Int} (h1 : p = p') (h2 : q = q') (h3 : s = s') :
    Ending.returned (.tuple #[.int k p, .int k q, .int k s]) = .returned (.tuple #[.int k p', .int k q', .int k s']) := by rw [h1, h2, h3]

/-- Four values of 32 bits are returned; nothing that was there has turned. -/
def Gives4 (w : World) (p q s t : Int) (e : Ending) (w' : World) : Prop :=
  e = .returned (.tuple #[.int .u32 p, .int .u32 q, .int .u32 s, .int .u32 t]) ∧ Below w.heap.size w w'



















end Go.Proofs.Ytpjplkgfbjfokaa
