/-
  No cell of these rows narrows 'for every input' (looked for: loops, veiled, ifaces, maps, wideKeys, modest, calm, conditions, laid).
  DERIVED. THE GIVEN ROWS OF THIS SEAT. 12 by the template 'for every input the law returns true; each argument reads behind the call as it read before'; 0 by the template 'total and deterministic' (their statements: YtcpjngfiefkodaaTotals.lean).
  GIVEN WITH THE SEED: the statements are not yours to turn. If you find one false, say at which input.
  Laid BY PROGRAM, IN A SANDBOX (cutbox-rows.mjs): the forced cells as the released guide's own fill.sh prints them over the translation efa31cadc506c04a… (all of the seat's roots in one cut). By AI agents, Wed Nov 11 2026. No macro, syntax, notation, axiom, sorry.
-/
import Derived.Test.YtcpjngfiefkodaaChecked
import GoSem.Claim
import GoSem.ClaimJoined
import GoSem.ClaimMapViews
import Derived.JoinedTies
import Derived.KernelRfl
namespace Go.Proofs.Ytcpjngfiefkodaa
/- THE CELL 'sum', in the pinned program and in every row, IS THE sha256 OF THE DUMP (.gsa) THAT YtcpjngfiefkodaaProg.lean LOADS. Nothing in Lean hashes anything: it is a label: what it is worth is what the hold of that sum in a sandbox is worth. -/
noncomputable def Try.pinned : Pinned := { name := "ytcpjngfiefkodaa", sum := "efa31cadc506c04ac7a5f73099a82be664085eaff30a243571ca35f3038cac7c", checked := Try.checked }
namespace Rows
def none {H : Type} : Left H := { results := [], args := [] }

/-- 'laws.FnGreyInk': WHATEVER THE INPUT: true; the input reads as it did. -/
def fnGreyInkSpec : ChangeSpec := { name := "fnGreyInk", fn := fun _ => fun
  | [d] => { results := [.lit (.bool true)], args := [d] }
  | _ => none }
def fnGreyInkRow : OpenClaim := { program := "ytcpjngfiefkodaa", sum := "efa31cadc506c04ac7a5f73099a82be664085eaff30a243571ca35f3038cac7c", func := "loop.example/lib-colourvalues/laws.FnGreyInk", spec := "fnGreyInk", apart := false }
def FnGreyInkSaid : Prop := fnGreyInkRow.holds Try.pinned (OpenSpec.ofChange fnGreyInkSpec)

/-- ITS FALSE NEIGHBOUR: 'it returns false'. Refute it at one input. -/
def fnGreyInkWrong : ChangeSpec := { name := "fnGreyInk", fn := fun _ => fun
  | [d] => { results := [.lit (.bool false)], args := [d] }
  | _ => none }
def FnGreyInkWrongFalsely : Prop := fnGreyInkRow.holds Try.pinned (OpenSpec.ofChange fnGreyInkWrong)

/-- 'laws.FnInkShare': WHATEVER THE INPUT: true; the input reads as it did. -/
def fnInkShareSpec : ChangeSpec := { name := "fnInkShare", fn := fun _ => fun
  | [d] => { results := [.lit (.bool true)], args := [d] }
  | _ => none }
def fnInkShareRow : OpenClaim := { program := "ytcpjngfiefkodaa", sum := "efa31cadc506c04ac7a5f73099a82be664085eaff30a243571ca35f3038cac7c", func := "loop.example/lib-colourvalues/laws.FnInkShare", spec := "fnInkShare", apart := false }
def FnInkShareSaid : Prop := fnInkShareRow.holds Try.pinned (OpenSpec.ofChange fnInkShareSpec)

/-- ITS FALSE NEIGHBOUR: 'it returns false'. Refute it at one input. -/
def fnInkShareWrong : ChangeSpec := { name := "fnInkShare", fn := fun _ => fun
  | [d] => { results := [.lit (.bool false)], args := [d] }
  | _ => none }
def FnInkShareWrongFalsely : Prop := fnInkShareRow.holds Try.pinned (OpenSpec.ofChange fnInkShareWrong)

/-- 'laws.FnInkValueTop': WHATEVER THE INPUT: true; the input reads as it did. -/
def fnInkValueTopSpec : ChangeSpec := { name := "fnInkValueTop", fn := fun _ => fun
  | [d] => { results := [.lit (.bool true)], args := [d] }
  | _ => none }
def fnInkValueTopRow : OpenClaim := { program := "ytcpjngfiefkodaa", sum := "efa31cadc506c04ac7a5f73099a82be664085eaff30a243571ca35f3038cac7c", func := "loop.example/lib-colourvalues/laws.FnInkValueTop", spec := "fnInkValueTop", apart := false }
def FnInkValueTopSaid : Prop := fnInkValueTopRow.holds Try.pinned (OpenSpec.ofChange fnInkValueTopSpec)

/-- ITS FALSE NEIGHBOUR: 'it returns false'. Refute it at one input. -/
def fnInkValueTopWrong : ChangeSpec := { name := "fnInkValueTop", fn := fun _ => fun
  | [d] => { results := [.lit (.bool false)], args := [d] }
  | _ => none }
def FnInkValueTopWrongFalsely : Prop := fnInkValueTopRow.holds Try.pinned (OpenSpec.ofChange fnInkValueTopWrong)

/-- 'laws.FnGreyInkAndBack': WHATEVER THE INPUT: true; the input reads as it did. -/
def fnGreyInkAndBackSpec : ChangeSpec := { name := "fnGreyInkAndBack", fn := fun _ => fun
  | [d] => { results := [.lit (.bool true)], args := [d] }
  | _ => none }
def fnGreyInkAndBackRow : OpenClaim := { program := "ytcpjngfiefkodaa", sum := "efa31cadc506c04ac7a5f73099a82be664085eaff30a243571ca35f3038cac7c", func := "loop.example/lib-colourvalues/laws.FnGreyInkAndBack", spec := "fnGreyInkAndBack", apart := false }
def FnGreyInkAndBackSaid : Prop := fnGreyInkAndBackRow.holds Try.pinned (OpenSpec.ofChange fnGreyInkAndBackSpec)

/-- ITS FALSE NEIGHBOUR: 'it returns false'. Refute it at one input. -/
def fnGreyInkAndBackWrong : ChangeSpec := { name := "fnGreyInkAndBack", fn := fun _ => fun
  | [d] => { results := [.lit (.bool false)], args := [d] }
  | _ => none }
def FnGreyInkAndBackWrongFalsely : Prop := fnGreyInkAndBackRow.holds Try.pinned (OpenSpec.ofChange fnGreyInkAndBackWrong)

/-- 'laws.FnInkAndBack': WHATEVER THE INPUT: true; the input reads as it did. -/
def fnInkAndBackSpec : ChangeSpec := { name := "fnInkAndBack", fn := fun _ => fun
  | [d] => { results := [.lit (.bool true)], args := [d] }
  | _ => none }
def fnInkAndBackRow : OpenClaim := { program := "ytcpjngfiefkodaa", sum := "efa31cadc506c04ac7a5f73099a82be664085eaff30a243571ca35f3038cac7c", func := "loop.example/lib-colourvalues/laws.FnInkAndBack", spec := "fnInkAndBack", apart := false }
def FnInkAndBackSaid : Prop := fnInkAndBackRow.holds Try.pinned (OpenSpec.ofChange fnInkAndBackSpec)

/-- ITS FALSE NEIGHBOUR: 'it returns false'. Refute it at one input. -/
def fnInkAndBackWrong : ChangeSpec := { name := "fnInkAndBack", fn := fun _ => fun
  | [d] => { results := [.lit (.bool false)], args := [d] }
  | _ => none }
def FnInkAndBackWrongFalsely : Prop := fnInkAndBackRow.holds Try.pinned (OpenSpec.ofChange fnInkAndBackWrong)

/-- 'laws.FnLumaAlphaBelow': WHATEVER THE INPUT: true; the input reads as it did. -/
def fnLumaAlphaBelowSpec : ChangeSpec := { name := "fnLumaAlphaBelow", fn := fun _ => fun
  | [d] => { results := [.lit (.bool true)], args := [d] }
  | _ => none }
def fnLumaAlphaBelowRow : OpenClaim := { program := "ytcpjngfiefkodaa", sum := "efa31cadc506c04ac7a5f73099a82be664085eaff30a243571ca35f3038cac7c", func := "loop.example/lib-colourvalues/laws.FnLumaAlphaBelow", spec := "fnLumaAlphaBelow", apart := false }
def FnLumaAlphaBelowSaid : Prop := fnLumaAlphaBelowRow.holds Try.pinned (OpenSpec.ofChange fnLumaAlphaBelowSpec)

/-- ITS FALSE NEIGHBOUR: 'it returns false'. Refute it at one input. -/
def fnLumaAlphaBelowWrong : ChangeSpec := { name := "fnLumaAlphaBelow", fn := fun _ => fun
  | [d] => { results := [.lit (.bool false)], args := [d] }
  | _ => none }
def FnLumaAlphaBelowWrongFalsely : Prop := fnLumaAlphaBelowRow.holds Try.pinned (OpenSpec.ofChange fnLumaAlphaBelowWrong)

/-- 'laws.FnBlueChromaMonotone': WHATEVER THE INPUT: true; the input reads as it did. -/
def fnBlueChromaMonotoneSpec : ChangeSpec := { name := "fnBlueChromaMonotone", fn := fun _ => fun
  | [d] => { results := [.lit (.bool true)], args := [d] }
  | _ => none }
def fnBlueChromaMonotoneRow : OpenClaim := { program := "ytcpjngfiefkodaa", sum := "efa31cadc506c04ac7a5f73099a82be664085eaff30a243571ca35f3038cac7c", func := "loop.example/lib-colourvalues/laws.FnBlueChromaMonotone", spec := "fnBlueChromaMonotone", apart := false }
def FnBlueChromaMonotoneSaid : Prop := fnBlueChromaMonotoneRow.holds Try.pinned (OpenSpec.ofChange fnBlueChromaMonotoneSpec)

/-- ITS FALSE NEIGHBOUR: 'it returns false'. Refute it at one input. -/
def fnBlueChromaMonotoneWrong : ChangeSpec := { name := "fnBlueChromaMonotone", fn := fun _ => fun
  | [d] => { results := [.lit (.bool false)], args := [d] }
  | _ => none }
def FnBlueChromaMonotoneWrongFalsely : Prop := fnBlueChromaMonotoneRow.holds Try.pinned (OpenSpec.ofChange fnBlueChromaMonotoneWrong)

/-- 'laws.FnExactRGBToYCbCr': WHATEVER THE INPUT: true; the input reads as it did. -/
def fnExactRGBToYCbCrSpec : ChangeSpec := { name := "fnExactRGBToYCbCr", fn := fun _ => fun
  | [d1, d2, d3] => { results := [.lit (.bool true)], args := [d1, d2, d3] }
  | _ => none }
def fnExactRGBToYCbCrRow : OpenClaim := { program := "ytcpjngfiefkodaa", sum := "efa31cadc506c04ac7a5f73099a82be664085eaff30a243571ca35f3038cac7c", func := "loop.example/lib-colourvalues/laws.FnExactRGBToYCbCr", spec := "fnExactRGBToYCbCr", apart := false }
def FnExactRGBToYCbCrSaid : Prop := fnExactRGBToYCbCrRow.holds Try.pinned (OpenSpec.ofChange fnExactRGBToYCbCrSpec)

/-- ITS FALSE NEIGHBOUR: 'it returns false'. Refute it at one input. -/
def fnExactRGBToYCbCrWrong : ChangeSpec := { name := "fnExactRGBToYCbCr", fn := fun _ => fun
  | [d1, d2, d3] => { results := [.lit (.bool false)], args := [d1, d2, d3] }
  | _ => none }
def FnExactRGBToYCbCrWrongFalsely : Prop := fnExactRGBToYCbCrRow.holds Try.pinned (OpenSpec.ofChange fnExactRGBToYCbCrWrong)

/-- 'laws.FnGreyToYCbCr': WHATEVER THE INPUT: true; the input reads as it did. -/
def fnGreyToYCbCrSpec : ChangeSpec := { name := "fnGreyToYCbCr", fn := fun _ => fun
  | [d] => { results := [.lit (.bool true)], args := [d] }
  | _ => none }
def fnGreyToYCbCrRow : OpenClaim := { program := "ytcpjngfiefkodaa", sum := "efa31cadc506c04ac7a5f73099a82be664085eaff30a243571ca35f3038cac7c", func := "loop.example/lib-colourvalues/laws.FnGreyToYCbCr", spec := "fnGreyToYCbCr", apart := false }
def FnGreyToYCbCrSaid : Prop := fnGreyToYCbCrRow.holds Try.pinned (OpenSpec.ofChange fnGreyToYCbCrSpec)

/-- ITS FALSE NEIGHBOUR: 'it returns false'. Refute it at one input. -/
def fnGreyToYCbCrWrong : ChangeSpec := { name := "fnGreyToYCbCr", fn := fun _ => fun
  | [d] => { results := [.lit (.bool false)], args := [d] }
  | _ => none }
def FnGreyToYCbCrWrongFalsely : Prop := fnGreyToYCbCrRow.holds Try.pinned (OpenSpec.ofChange fnGreyToYCbCrWrong)

/-- 'laws.FnLumaBetween': WHATEVER THE INPUT: true; the input reads as it did. -/
def fnLumaBetweenSpec : ChangeSpec := { name := "fnLumaBetween", fn := fun _ => fun
  | [d] => { results := [.lit (.bool true)], args := [d] }
  | _ => none }
def fnLumaBetweenRow : OpenClaim := { program := "ytcpjngfiefkodaa", sum := "efa31cadc506c04ac7a5f73099a82be664085eaff30a243571ca35f3038cac7c", func := "loop.example/lib-colourvalues/laws.FnLumaBetween", spec := "fnLumaBetween", apart := false }
def FnLumaBetweenSaid : Prop := fnLumaBetweenRow.holds Try.pinned (OpenSpec.ofChange fnLumaBetweenSpec)

/-- ITS FALSE NEIGHBOUR: 'it returns false'. Refute it at one input. -/
def fnLumaBetweenWrong : ChangeSpec := { name := "fnLumaBetween", fn := fun _ => fun
  | [d] => { results := [.lit (.bool false)], args := [d] }
  | _ => none }
def FnLumaBetweenWrongFalsely : Prop := fnLumaBetweenRow.holds Try.pinned (OpenSpec.ofChange fnLumaBetweenWrong)

/-- 'laws.FnLumaMonotone': WHATEVER THE INPUT: true; the input reads as it did. -/
def fnLumaMonotoneSpec : ChangeSpec := { name := "fnLumaMonotone", fn := fun _ => fun
  | [d] => { results := [.lit (.bool true)], args := [d] }
  | _ => none }
def fnLumaMonotoneRow : OpenClaim := { program := "ytcpjngfiefkodaa", sum := "efa31cadc506c04ac7a5f73099a82be664085eaff30a243571ca35f3038cac7c", func := "loop.example/lib-colourvalues/laws.FnLumaMonotone", spec := "fnLumaMonotone", apart := false }
def FnLumaMonotoneSaid : Prop := fnLumaMonotoneRow.holds Try.pinned (OpenSpec.ofChange fnLumaMonotoneSpec)

/-- ITS FALSE NEIGHBOUR: 'it returns false'. Refute it at one input. -/
def fnLumaMonotoneWrong : ChangeSpec := { name := "fnLumaMonotone", fn := fun _ => fun
  | [d] => { results := [.lit (.bool false)], args := [d] }
  | _ => none }
def FnLumaMonotoneWrongFalsely : Prop := fnLumaMonotoneRow.holds Try.pinned (OpenSpec.ofChange fnLumaMonotoneWrong)

/-- 'laws.FnRedChromaMonotone': WHATEVER THE INPUT: true; the input reads as it did. -/
def fnRedChromaMonotoneSpec : ChangeSpec := { name := "fnRedChromaMonotone", fn := fun _ => fun
  | [d] => { results := [.lit (.bool true)], args := [d] }
  | _ => none }
def fnRedChromaMonotoneRow : OpenClaim := { program := "ytcpjngfiefkodaa", sum := "efa31cadc506c04ac7a5f73099a82be664085eaff30a243571ca35f3038cac7c", func := "loop.example/lib-colourvalues/laws.FnRedChromaMonotone", spec := "fnRedChromaMonotone", apart := false }
def FnRedChromaMonotoneSaid : Prop := fnRedChromaMonotoneRow.holds Try.pinned (OpenSpec.ofChange fnRedChromaMonotoneSpec)

/-- ITS FALSE NEIGHBOUR: 'it returns false'. Refute it at one input. -/
def fnRedChromaMonotoneWrong : ChangeSpec := { name := "fnRedChromaMonotone", fn := fun _ => fun
  | [d] => { results := [.lit (.bool false)], args := [d] }
  | _ => none }
def FnRedChromaMonotoneWrongFalsely : Prop := fnRedChromaMonotoneRow.holds Try.pinned (OpenSpec.ofChange fnRedChromaMonotoneWrong)

/- THE SECOND FORM. 'bulk': how many values and letters a reading holds, each counted each time it is reached (what is shared counts as often as it is met; a slice's spare places count too). A statement '..UptoSaid' is the law's where the arguments, and the package variables that the reading takes, are together of bulk at most 1048576: NARROWER than '..Said'. Prove '..Said' where nothing that the law and all that it calls make is longer than what came in: it says more and counts as full. Else prove '..UptoSaid'. A law counts once. -/
mutual
def uptoBulk {H : Type} : DataW H → Nat
  | .lit (.string bytes) => bytes.length + 1
  | .lit _ => 1
  | .nil => 1
  | .ptr d => uptoBulk d + 1
  | .slice elems spare => uptoBulkAll elems + uptoBulkAll spare + 1
  | .agg parts => uptoBulkAll parts + 1
  | .iface _ d => uptoBulk d + 1
  | .map entries => uptoBulkEntries entries + 1
  | .held _ => 1
def uptoBulkAll {H : Type} : List (DataW H) → Nat
  | [] => 0
  | d :: r => uptoBulk d + uptoBulkAll r
def uptoBulkEntries {H : Type} : List (Lit × DataW H) → Nat
  | [] => 0
  | x :: r => uptoBulkEntry x + uptoBulkEntries r
def uptoBulkEntry {H : Type} : Lit × DataW H → Nat
  | (.string bytes, d) => bytes.length + uptoBulk d + 1
  | (_, d) => uptoBulk d + 1
 end
def uptoSmall : (H : Type) → List (DataW H) → Bool := fun _ ds => decide (uptoBulkAll ds ≤ 1048576)
def OpenSpec.upto (s : _root_.Go.ChangeSpec) : _root_.Go.OpenSpec := { _root_.Go.OpenSpec.ofChange s with cond := some uptoSmall }

/-- 'laws.FnGreyInk', WHERE WHAT IT READS IS OF BULK AT MOST 1048576: true; the input reads as it did. -/
def fnGreyInkUptoRow : OpenClaim := { program := "ytcpjngfiefkodaa", sum := "efa31cadc506c04ac7a5f73099a82be664085eaff30a243571ca35f3038cac7c", func := "loop.example/lib-colourvalues/laws.FnGreyInk", spec := "fnGreyInk", apart := false, narrowed := true }
def FnGreyInkUptoSaid : Prop := fnGreyInkUptoRow.holds Try.pinned (OpenSpec.upto fnGreyInkSpec)

/-- 'laws.FnInkShare', WHERE WHAT IT READS IS OF BULK AT MOST 1048576: true; the input reads as it did. -/
def fnInkShareUptoRow : OpenClaim := { program := "ytcpjngfiefkodaa", sum := "efa31cadc506c04ac7a5f73099a82be664085eaff30a243571ca35f3038cac7c", func := "loop.example/lib-colourvalues/laws.FnInkShare", spec := "fnInkShare", apart := false, narrowed := true }
def FnInkShareUptoSaid : Prop := fnInkShareUptoRow.holds Try.pinned (OpenSpec.upto fnInkShareSpec)

/-- 'laws.FnInkValueTop', WHERE WHAT IT READS IS OF BULK AT MOST 1048576: true; the input reads as it did. -/
def fnInkValueTopUptoRow : OpenClaim := { program := "ytcpjngfiefkodaa", sum := "efa31cadc506c04ac7a5f73099a82be664085eaff30a243571ca35f3038cac7c", func := "loop.example/lib-colourvalues/laws.FnInkValueTop", spec := "fnInkValueTop", apart := false, narrowed := true }
def FnInkValueTopUptoSaid : Prop := fnInkValueTopUptoRow.holds Try.pinned (OpenSpec.upto fnInkValueTopSpec)

/-- 'laws.FnGreyInkAndBack', WHERE WHAT IT READS IS OF BULK AT MOST 1048576: true; the input reads as it did. -/
def fnGreyInkAndBackUptoRow : OpenClaim := { program := "ytcpjngfiefkodaa", sum := "efa31cadc506c04ac7a5f73099a82be664085eaff30a243571ca35f3038cac7c", func := "loop.example/lib-colourvalues/laws.FnGreyInkAndBack", spec := "fnGreyInkAndBack", apart := false, narrowed := true }
def FnGreyInkAndBackUptoSaid : Prop := fnGreyInkAndBackUptoRow.holds Try.pinned (OpenSpec.upto fnGreyInkAndBackSpec)

/-- 'laws.FnInkAndBack', WHERE WHAT IT READS IS OF BULK AT MOST 1048576: true; the input reads as it did. -/
def fnInkAndBackUptoRow : OpenClaim := { program := "ytcpjngfiefkodaa", sum := "efa31cadc506c04ac7a5f73099a82be664085eaff30a243571ca35f3038cac7c", func := "loop.example/lib-colourvalues/laws.FnInkAndBack", spec := "fnInkAndBack", apart := false, narrowed := true }
def FnInkAndBackUptoSaid : Prop := fnInkAndBackUptoRow.holds Try.pinned (OpenSpec.upto fnInkAndBackSpec)

/-- 'laws.FnLumaAlphaBelow', WHERE WHAT IT READS IS OF BULK AT MOST 1048576: true; the input reads as it did. -/
def fnLumaAlphaBelowUptoRow : OpenClaim := { program := "ytcpjngfiefkodaa", sum := "efa31cadc506c04ac7a5f73099a82be664085eaff30a243571ca35f3038cac7c", func := "loop.example/lib-colourvalues/laws.FnLumaAlphaBelow", spec := "fnLumaAlphaBelow", apart := false, narrowed := true }
def FnLumaAlphaBelowUptoSaid : Prop := fnLumaAlphaBelowUptoRow.holds Try.pinned (OpenSpec.upto fnLumaAlphaBelowSpec)

/-- 'laws.FnBlueChromaMonotone', WHERE WHAT IT READS IS OF BULK AT MOST 1048576: true; the input reads as it did. -/
def fnBlueChromaMonotoneUptoRow : OpenClaim := { program := "ytcpjngfiefkodaa", sum := "efa31cadc506c04ac7a5f73099a82be664085eaff30a243571ca35f3038cac7c", func := "loop.example/lib-colourvalues/laws.FnBlueChromaMonotone", spec := "fnBlueChromaMonotone", apart := false, narrowed := true }
def FnBlueChromaMonotoneUptoSaid : Prop := fnBlueChromaMonotoneUptoRow.holds Try.pinned (OpenSpec.upto fnBlueChromaMonotoneSpec)

/-- 'laws.FnExactRGBToYCbCr', WHERE WHAT IT READS IS OF BULK AT MOST 1048576: true; the input reads as it did. -/
def fnExactRGBToYCbCrUptoRow : OpenClaim := { program := "ytcpjngfiefkodaa", sum := "efa31cadc506c04ac7a5f73099a82be664085eaff30a243571ca35f3038cac7c", func := "loop.example/lib-colourvalues/laws.FnExactRGBToYCbCr", spec := "fnExactRGBToYCbCr", apart := false, narrowed := true }
def FnExactRGBToYCbCrUptoSaid : Prop := fnExactRGBToYCbCrUptoRow.holds Try.pinned (OpenSpec.upto fnExactRGBToYCbCrSpec)

/-- 'laws.FnGreyToYCbCr', WHERE WHAT IT READS IS OF BULK AT MOST 1048576: true; the input reads as it did. -/
def fnGreyToYCbCrUptoRow : OpenClaim := { program := "ytcpjngfiefkodaa", sum := "efa31cadc506c04ac7a5f73099a82be664085eaff30a243571ca35f3038cac7c", func := "loop.example/lib-colourvalues/laws.FnGreyToYCbCr", spec := "fnGreyToYCbCr", apart := false, narrowed := true }
def FnGreyToYCbCrUptoSaid : Prop := fnGreyToYCbCrUptoRow.holds Try.pinned (OpenSpec.upto fnGreyToYCbCrSpec)

/-- 'laws.FnLumaBetween', WHERE WHAT IT READS IS OF BULK AT MOST 1048576: true; the input reads as it did. -/
def fnLumaBetweenUptoRow : OpenClaim := { program := "ytcpjngfiefkodaa", sum := "efa31cadc506c04ac7a5f73099a82be664085eaff30a243571ca35f3038cac7c", func := "loop.example/lib-colourvalues/laws.FnLumaBetween", spec := "fnLumaBetween", apart := false, narrowed := true }
def FnLumaBetweenUptoSaid : Prop := fnLumaBetweenUptoRow.holds Try.pinned (OpenSpec.upto fnLumaBetweenSpec)

/-- 'laws.FnLumaMonotone', WHERE WHAT IT READS IS OF BULK AT MOST 1048576: true; the input reads as it did. -/
def fnLumaMonotoneUptoRow : OpenClaim := { program := "ytcpjngfiefkodaa", sum := "efa31cadc506c04ac7a5f73099a82be664085eaff30a243571ca35f3038cac7c", func := "loop.example/lib-colourvalues/laws.FnLumaMonotone", spec := "fnLumaMonotone", apart := false, narrowed := true }
def FnLumaMonotoneUptoSaid : Prop := fnLumaMonotoneUptoRow.holds Try.pinned (OpenSpec.upto fnLumaMonotoneSpec)

/-- 'laws.FnRedChromaMonotone', WHERE WHAT IT READS IS OF BULK AT MOST 1048576: true; the input reads as it did. -/
def fnRedChromaMonotoneUptoRow : OpenClaim := { program := "ytcpjngfiefkodaa", sum := "efa31cadc506c04ac7a5f73099a82be664085eaff30a243571ca35f3038cac7c", func := "loop.example/lib-colourvalues/laws.FnRedChromaMonotone", spec := "fnRedChromaMonotone", apart := false, narrowed := true }
def FnRedChromaMonotoneUptoSaid : Prop := fnRedChromaMonotoneUptoRow.holds Try.pinned (OpenSpec.upto fnRedChromaMonotoneSpec)

end Rows
end Go.Proofs.Ytcpjngfiefkodaa
