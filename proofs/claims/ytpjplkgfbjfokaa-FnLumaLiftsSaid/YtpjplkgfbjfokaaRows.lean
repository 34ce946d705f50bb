/-
  No cell of these rows narrows 'for every input' (looked for: loops, veiled, ifaces, maps, wideKeys, modest, calm, conditions, laid).
  DERIVED. THE GIVEN ROWS OF THIS SEAT. 3 by the template 'for every input the law returns true; each argument reads behind the call as it read before'; 0 by the template 'total and deterministic' (their statements: YtpjplkgfbjfokaaTotals.lean).
  GIVEN WITH THE SEED: the statements are not yours to turn. If you find one false, say at which input.
  Laid BY PROGRAM, IN A SANDBOX (cutbox-rows.mjs): the forced cells as the released guide's own fill.sh prints them over the translation 40c15be89238d429… (all of the seat's roots in one cut). By AI agents, Wed Nov 11 2026. No macro, syntax, notation, axiom, sorry.
-/
import Derived.Test.YtpjplkgfbjfokaaChecked
import GoSem.Claim
import GoSem.ClaimJoined
import GoSem.ClaimMapViews
import Derived.JoinedTies
import Derived.KernelRfl
namespace Go.Proofs.Ytpjplkgfbjfokaa
/- THE CELL 'sum', in the pinned program and in every row, IS THE sha256 OF THE DUMP (.gsa) THAT YtpjplkgfbjfokaaProg.lean LOADS. Nothing in Lean hashes anything: it is a label: what it is worth is what the hold of that sum in a sandbox is worth. -/
noncomputable def Try.pinned : Pinned := { name := "ytpjplkgfbjfokaa", sum := "40c15be89238d429cfd9d930ce1a6f34ab9d733f0ad185772c72d4e0f6093234", checked := Try.checked }
namespace Rows
def none {H : Type} : Left H := { results := [], args := [] }

/-- 'laws.FnChromaTurns': WHATEVER THE INPUT: true; the input reads as it did. -/
def fnChromaTurnsSpec : ChangeSpec := { name := "fnChromaTurns", fn := fun _ => fun
  | [d] => { results := [.lit (.bool true)], args := [d] }
  | _ => none }
def fnChromaTurnsRow : OpenClaim := { program := "ytpjplkgfbjfokaa", sum := "40c15be89238d429cfd9d930ce1a6f34ab9d733f0ad185772c72d4e0f6093234", func := "loop.example/lib-colourvalues/laws.FnChromaTurns", spec := "fnChromaTurns", apart := false }
def FnChromaTurnsSaid : Prop := fnChromaTurnsRow.holds Try.pinned (OpenSpec.ofChange fnChromaTurnsSpec)

/-- ITS FALSE NEIGHBOUR: 'it returns false'. Refute it at one input. -/
def fnChromaTurnsWrong : ChangeSpec := { name := "fnChromaTurns", fn := fun _ => fun
  | [d] => { results := [.lit (.bool false)], args := [d] }
  | _ => none }
def FnChromaTurnsWrongFalsely : Prop := fnChromaTurnsRow.holds Try.pinned (OpenSpec.ofChange fnChromaTurnsWrong)

/-- 'laws.FnGreyAndBack': WHATEVER THE INPUT: true; the input reads as it did. -/
def fnGreyAndBackSpec : ChangeSpec := { name := "fnGreyAndBack", fn := fun _ => fun
  | [d] => { results := [.lit (.bool true)], args := [d] }
  | _ => none }
def fnGreyAndBackRow : OpenClaim := { program := "ytpjplkgfbjfokaa", sum := "40c15be89238d429cfd9d930ce1a6f34ab9d733f0ad185772c72d4e0f6093234", func := "loop.example/lib-colourvalues/laws.FnGreyAndBack", spec := "fnGreyAndBack", apart := false }
def FnGreyAndBackSaid : Prop := fnGreyAndBackRow.holds Try.pinned (OpenSpec.ofChange fnGreyAndBackSpec)

/-- ITS FALSE NEIGHBOUR: 'it returns false'. Refute it at one input. -/
def fnGreyAndBackWrong : ChangeSpec := { name := "fnGreyAndBack", fn := fun _ => fun
  | [d] => { results := [.lit (.bool false)], args := [d] }
  | _ => none }
def FnGreyAndBackWrongFalsely : Prop := fnGreyAndBackRow.holds Try.pinned (OpenSpec.ofChange fnGreyAndBackWrong)

/-- 'laws.FnLumaLifts': WHATEVER THE INPUT: true; the input reads as it did. -/
def fnLumaLiftsSpec : ChangeSpec := { name := "fnLumaLifts", fn := fun _ => fun
  | [d] => { results := [.lit (.bool true)], args := [d] }
  | _ => none }
def fnLumaLiftsRow : OpenClaim := { program := "ytpjplkgfbjfokaa", sum := "40c15be89238d429cfd9d930ce1a6f34ab9d733f0ad185772c72d4e0f6093234", func := "loop.example/lib-colourvalues/laws.FnLumaLifts", spec := "fnLumaLifts", apart := false }
def FnLumaLiftsSaid : Prop := fnLumaLiftsRow.holds Try.pinned (OpenSpec.ofChange fnLumaLiftsSpec)

/-- ITS FALSE NEIGHBOUR: 'it returns false'. Refute it at one input. -/
def fnLumaLiftsWrong : ChangeSpec := { name := "fnLumaLifts", fn := fun _ => fun
  | [d] => { results := [.lit (.bool false)], args := [d] }
  | _ => none }
def FnLumaLiftsWrongFalsely : Prop := fnLumaLiftsRow.holds Try.pinned (OpenSpec.ofChange fnLumaLiftsWrong)

/- THE SECOND FORM. 'bulk': how many values and letters a reading holds, each counted each time it is reached (what is shared counts as often as it is met; a slice's spare places count too). A statement '..UptoSaid' is the law's where the arguments, and the package variables that the reading takes, are together of bulk at most 1048576: NARROWER than '..Said'. Prove '..Said' where nothing that the law and all that it calls make is longer than what came in: it says more and counts as full. Else prove '..UptoSaid'. A law counts once. -/
mutual
def uptoBulk {H : Type} : DataW H → Nat
  | .lit (.string bytes) => bytes.length + 1
  | .lit _ => 1
  | .nil => 1
  | .ptr d => uptoBulk d + 1
  | .slice elems spare => uptoBulkAll elems + uptoBulkAll spare + 1
  | .agg parts => uptoBulkAll parts + 1
  | .iface _ d => uptoBulk d + 1
  | .map entries => uptoBulkEntries entries + 1
  | .held _ => 1
def uptoBulkAll {H : Type} : List (DataW H) → Nat
  | [] => 0
  | d :: r => uptoBulk d + uptoBulkAll r
def uptoBulkEntries {H : Type} : List (Lit × DataW H) → Nat
  | [] => 0
  | x :: r => uptoBulkEntry x + uptoBulkEntries r
def uptoBulkEntry {H : Type} : Lit × DataW H → Nat
  | (.string bytes, d) => bytes.length + uptoBulk d + 1
  | (_, d) => uptoBulk d + 1
 end
def uptoSmall : (H : Type) → List (DataW H) → Bool := fun _ ds => decide (uptoBulkAll ds ≤ 1048576)
def OpenSpec.upto (s : _root_.Go.ChangeSpec) : _root_.Go.OpenSpec := { _root_.Go.OpenSpec.ofChange s with cond := some uptoSmall }

/-- 'laws.FnChromaTurns', WHERE WHAT IT READS IS OF BULK AT MOST 1048576: true; the input reads as it did. -/
def fnChromaTurnsUptoRow : OpenClaim := { program := "ytpjplkgfbjfokaa", sum := "40c15be89238d429cfd9d930ce1a6f34ab9d733f0ad185772c72d4e0f6093234", func := "loop.example/lib-colourvalues/laws.FnChromaTurns", spec := "fnChromaTurns", apart := false, narrowed := true }
def FnChromaTurnsUptoSaid : Prop := fnChromaTurnsUptoRow.holds Try.pinned (OpenSpec.upto fnChromaTurnsSpec)

/-- 'laws.FnGreyAndBack', WHERE WHAT IT READS IS OF BULK AT MOST 1048576: true; the input reads as it did. -/
def fnGreyAndBackUptoRow : OpenClaim := { program := "ytpjplkgfbjfokaa", sum := "40c15be89238d429cfd9d930ce1a6f34ab9d733f0ad185772c72d4e0f6093234", func := "loop.example/lib-colourvalues/laws.FnGreyAndBack", spec := "fnGreyAndBack", apart := false, narrowed := true }
def FnGreyAndBackUptoSaid : Prop := fnGreyAndBackUptoRow.holds Try.pinned (OpenSpec.upto fnGreyAndBackSpec)

/-- 'laws.FnLumaLifts', WHERE WHAT IT READS IS OF BULK AT MOST 1048576: true; the input reads as it did. -/
def fnLumaLiftsUptoRow : OpenClaim := { program := "ytpjplkgfbjfokaa", sum := "40c15be89238d429cfd9d930ce1a6f34ab9d733f0ad185772c72d4e0f6093234", func := "loop.example/lib-colourvalues/laws.FnLumaLifts", spec := "fnLumaLifts", apart := false, narrowed := true }
def FnLumaLiftsUptoSaid : Prop := fnLumaLiftsUptoRow.holds Try.pinned (OpenSpec.upto fnLumaLiftsSpec)

end Rows
end Go.Proofs.Ytpjplkgfbjfokaa
