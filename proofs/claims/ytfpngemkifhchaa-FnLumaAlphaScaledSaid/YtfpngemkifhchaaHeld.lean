/-
  For a statement that loads beside calls: laws.values and laws.same told with the world behind them as a letter; what is kept behind a call and behind a new block.
-/
import Derived.Test.YtfpngemkifhchaaVal
import Derived.Deep.RegionHeld3
namespace Go.Proofs.Ytfpngemkifhchaa
open Go.RowKit

def Lies (w0 w : World) (p q s t : Int) (e : Ending) (w' : World) : Prop :=
  ∃ A : Nat, e = .returned (.slice (some ⟨A, 0, none⟩) 4 4) ∧ A < w'.heap.size ∧ Below w0.heap.size w0 w' ∧ Below w.heap.size w w' ∧
    w'.cell? ⟨A, 0, none⟩ = some (.int .u32 p) ∧ w'.cell? ⟨A, 1, none⟩ = some (.int .u32 q) ∧ w'.cell? ⟨A, 2, none⟩ = some (.int .u32 s) ∧ w'.cell? ⟨A, 3, none⟩ = some (.int .u32 t)

theorem values_lies (w0 w : World) (hb : Below w0.heap.size w0 w) (p q s t : Int) :
    Calls Try.prog 20 #[.int .u32 p, .int .u32 q, .int .u32 s, .int .u32 t] w (Lies w0 w p q s t) := by
  refine (values_any w p q s t).mono ?_
  rintro e w' ⟨rfl, rfl⟩
  exact ⟨w.heap.size, rfl, by simp, hb.alloc hb.size _, (Below.refl _ _).alloc (Nat.le_refl _) _, by simp, by simp, by simp, by simp⟩

theorem same_below (w0 w : World) (hb : Below w0.heap.size w0 w) (a b : Nat) (p q s t : Int)
    (a0 : w.cell? ⟨a, 0, none⟩ = some (.int .u32 p)) (a1 : w.cell? ⟨a, 1, none⟩ = some (.int .u32 q)) (a2 : w.cell? ⟨a, 2, none⟩ = some (.int .u32 s)) (a3 : w.cell? ⟨a, 3, none⟩ = some (.int .u32 t))
    (b0 : w.cell? ⟨b, 0, none⟩ = some (.int .u32 p)) (b1 : w.cell? ⟨b, 1, none⟩ = some (.int .u32 q)) (b2 : w.cell? ⟨b, 2, none⟩ = some (.int .u32 s)) (b3 : w.cell? ⟨b, 3, none⟩ = some (.int .u32 t)) :
    Calls Try.prog 19 #[.slice (some ⟨a, 0, none⟩) 4 4, .slice (some ⟨b, 0, none⟩) 4 4] w fun e w' => e = .returned (.bool true) ∧ Below w0.heap.size w0 w' ∧ Below w.heap.size w w' := by
  refine (same_any w a b p q s t a0 a1 a2 a3 b0 b1 b2 b3).mono ?_
  rintro e w' ⟨rfl, n, rfl⟩
  exact ⟨rfl, below_drewN hb n, below_drewN (Below.refl _ _) n⟩

/-- Three cells and all that is old are kept behind a call that writes nothing old. -/
theorem keep_call {w0 W W' : World} {X : Nat} {p q s : Int} (h : Below w0.heap.size w0 W ∧ W.cell? ⟨X, 0, none⟩ = some (.int .u32 p) ∧ W.cell? ⟨X, 1, none⟩ = some (.int .u32 q) ∧ W.cell? ⟨X, 2, none⟩ = some (.int .u32 s)) (k : Below W.heap.size W W') :
    Below w0.heap.size w0 W' ∧ W'.cell? ⟨X, 0, none⟩ = some (.int .u32 p) ∧ W'.cell? ⟨X, 1, none⟩ = some (.int .u32 q) ∧ W'.cell? ⟨X, 2, none⟩ = some (.int .u32 s) := by
  obtain ⟨hb, h0, h1, h2⟩ := h
  have hX : X < W.heap.size := block_lt_of_cell (a := ⟨X, 0, none⟩) h0
  refine ⟨hb.trans (k.mono hb.size), ?_, ?_, ?_⟩
  · rw [k.cell (p := ⟨X, 0, none⟩) hX]; exact h0
  · rw [k.cell (p := ⟨X, 1, none⟩) hX]; exact h1
  · rw [k.cell (p := ⟨X, 2, none⟩) hX]; exact h2

end Go.Proofs.Ytfpngemkifhchaa
