/-
  No cell of these rows narrows 'for every input' (looked for: loops, veiled, ifaces, maps, wideKeys, modest, calm, conditions, laid).
  DERIVED. THE GIVEN ROWS OF THIS SEAT. 12 by the template 'for every input the law returns true; each argument reads behind the call as it read before'; 0 by the template 'total and deterministic' (their statements: YtfpngemkifhchaaTotals.lean).
  GIVEN WITH THE SEED: the statements are not yours to turn. If you find one false, say at which input.
  Laid BY PROGRAM, IN A SANDBOX (cutbox-rows.mjs): the forced cells as the released guide's own fill.sh prints them over the translation dffdc56a0e2f65df… (all of the seat's roots in one cut). By AI agents, Wed Nov 11 2026. No macro, syntax, notation, axiom, sorry.
-/
import Derived.Test.YtfpngemkifhchaaChecked
import GoSem.Claim
import GoSem.ClaimJoined
import GoSem.ClaimMapViews
import Derived.JoinedTies
import Derived.KernelRfl
namespace Go.Proofs.Ytfpngemkifhchaa
/- THE CELL 'sum', in the pinned program and in every row, IS THE sha256 OF THE DUMP (.gsa) THAT YtfpngemkifhchaaProg.lean LOADS. Nothing in Lean hashes anything: it is a label: what it is worth is what the hold of that sum in a sandbox is worth. -/
noncomputable def Try.pinned : Pinned := { name := "ytfpngemkifhchaa", sum := "dffdc56a0e2f65dfaf87a5878bfd88dd4a25ddd48015669584a908ef05778cea", checked := Try.checked }
namespace Rows
def none {H : Type} : Left H := { results := [], args := [] }

/-- 'laws.FnOneInkNone': WHATEVER THE INPUT: true; the input reads as it did. -/
def fnOneInkNoneSpec : ChangeSpec := { name := "fnOneInkNone", fn := fun _ => fun
  | [d] => { results := [.lit (.bool true)], args := [d] }
  | _ => none }
def fnOneInkNoneRow : OpenClaim := { program := "ytfpngemkifhchaa", sum := "dffdc56a0e2f65dfaf87a5878bfd88dd4a25ddd48015669584a908ef05778cea", func := "loop.example/lib-colourvalues/laws.FnOneInkNone", spec := "fnOneInkNone", apart := false }
def FnOneInkNoneSaid : Prop := fnOneInkNoneRow.holds Try.pinned (OpenSpec.ofChange fnOneInkNoneSpec)

/-- ITS FALSE NEIGHBOUR: 'it returns false'. Refute it at one input. -/
def fnOneInkNoneWrong : ChangeSpec := { name := "fnOneInkNone", fn := fun _ => fun
  | [d] => { results := [.lit (.bool false)], args := [d] }
  | _ => none }
def FnOneInkNoneWrongFalsely : Prop := fnOneInkNoneRow.holds Try.pinned (OpenSpec.ofChange fnOneInkNoneWrong)

/-- 'laws.FnOpaqueWideRoad': WHATEVER THE INPUT: true; the input reads as it did. -/
def fnOpaqueWideRoadSpec : ChangeSpec := { name := "fnOpaqueWideRoad", fn := fun _ => fun
  | [d] => { results := [.lit (.bool true)], args := [d] }
  | _ => none }
def fnOpaqueWideRoadRow : OpenClaim := { program := "ytfpngemkifhchaa", sum := "dffdc56a0e2f65dfaf87a5878bfd88dd4a25ddd48015669584a908ef05778cea", func := "loop.example/lib-colourvalues/laws.FnOpaqueWideRoad", spec := "fnOpaqueWideRoad", apart := false }
def FnOpaqueWideRoadSaid : Prop := fnOpaqueWideRoadRow.holds Try.pinned (OpenSpec.ofChange fnOpaqueWideRoadSpec)

/-- ITS FALSE NEIGHBOUR: 'it returns false'. Refute it at one input. -/
def fnOpaqueWideRoadWrong : ChangeSpec := { name := "fnOpaqueWideRoad", fn := fun _ => fun
  | [d] => { results := [.lit (.bool false)], args := [d] }
  | _ => none }
def FnOpaqueWideRoadWrongFalsely : Prop := fnOpaqueWideRoadRow.holds Try.pinned (OpenSpec.ofChange fnOpaqueWideRoadWrong)

/-- 'laws.FnOpaqueRoad': WHATEVER THE INPUT: true; the input reads as it did. -/
def fnOpaqueRoadSpec : ChangeSpec := { name := "fnOpaqueRoad", fn := fun _ => fun
  | [d] => { results := [.lit (.bool true)], args := [d] }
  | _ => none }
def fnOpaqueRoadRow : OpenClaim := { program := "ytfpngemkifhchaa", sum := "dffdc56a0e2f65dfaf87a5878bfd88dd4a25ddd48015669584a908ef05778cea", func := "loop.example/lib-colourvalues/laws.FnOpaqueRoad", spec := "fnOpaqueRoad", apart := false }
def FnOpaqueRoadSaid : Prop := fnOpaqueRoadRow.holds Try.pinned (OpenSpec.ofChange fnOpaqueRoadSpec)

/-- ITS FALSE NEIGHBOUR: 'it returns false'. Refute it at one input. -/
def fnOpaqueRoadWrong : ChangeSpec := { name := "fnOpaqueRoad", fn := fun _ => fun
  | [d] => { results := [.lit (.bool false)], args := [d] }
  | _ => none }
def FnOpaqueRoadWrongFalsely : Prop := fnOpaqueRoadRow.holds Try.pinned (OpenSpec.ofChange fnOpaqueRoadWrong)

/-- 'laws.FnGreyRoad': WHATEVER THE INPUT: true; the input reads as it did. -/
def fnGreyRoadSpec : ChangeSpec := { name := "fnGreyRoad", fn := fun _ => fun
  | [d] => { results := [.lit (.bool true)], args := [d] }
  | _ => none }
def fnGreyRoadRow : OpenClaim := { program := "ytfpngemkifhchaa", sum := "dffdc56a0e2f65dfaf87a5878bfd88dd4a25ddd48015669584a908ef05778cea", func := "loop.example/lib-colourvalues/laws.FnGreyRoad", spec := "fnGreyRoad", apart := false }
def FnGreyRoadSaid : Prop := fnGreyRoadRow.holds Try.pinned (OpenSpec.ofChange fnGreyRoadSpec)

/-- ITS FALSE NEIGHBOUR: 'it returns false'. Refute it at one input. -/
def fnGreyRoadWrong : ChangeSpec := { name := "fnGreyRoad", fn := fun _ => fun
  | [d] => { results := [.lit (.bool false)], args := [d] }
  | _ => none }
def FnGreyRoadWrongFalsely : Prop := fnGreyRoadRow.holds Try.pinned (OpenSpec.ofChange fnGreyRoadWrong)

/-- 'laws.FnWideRoad': WHATEVER THE INPUT: true; the input reads as it did. -/
def fnWideRoadSpec : ChangeSpec := { name := "fnWideRoad", fn := fun _ => fun
  | [d] => { results := [.lit (.bool true)], args := [d] }
  | _ => none }
def fnWideRoadRow : OpenClaim := { program := "ytfpngemkifhchaa", sum := "dffdc56a0e2f65dfaf87a5878bfd88dd4a25ddd48015669584a908ef05778cea", func := "loop.example/lib-colourvalues/laws.FnWideRoad", spec := "fnWideRoad", apart := false }
def FnWideRoadSaid : Prop := fnWideRoadRow.holds Try.pinned (OpenSpec.ofChange fnWideRoadSpec)

/-- ITS FALSE NEIGHBOUR: 'it returns false'. Refute it at one input. -/
def fnWideRoadWrong : ChangeSpec := { name := "fnWideRoad", fn := fun _ => fun
  | [d] => { results := [.lit (.bool false)], args := [d] }
  | _ => none }
def FnWideRoadWrongFalsely : Prop := fnWideRoadRow.holds Try.pinned (OpenSpec.ofChange fnWideRoadWrong)

/-- 'laws.FnChromaSides': WHATEVER THE INPUT: true; the input reads as it did. -/
def fnChromaSidesSpec : ChangeSpec := { name := "fnChromaSides", fn := fun _ => fun
  | [d] => { results := [.lit (.bool true)], args := [d] }
  | _ => none }
def fnChromaSidesRow : OpenClaim := { program := "ytfpngemkifhchaa", sum := "dffdc56a0e2f65dfaf87a5878bfd88dd4a25ddd48015669584a908ef05778cea", func := "loop.example/lib-colourvalues/laws.FnChromaSides", spec := "fnChromaSides", apart := false }
def FnChromaSidesSaid : Prop := fnChromaSidesRow.holds Try.pinned (OpenSpec.ofChange fnChromaSidesSpec)

/-- ITS FALSE NEIGHBOUR: 'it returns false'. Refute it at one input. -/
def fnChromaSidesWrong : ChangeSpec := { name := "fnChromaSides", fn := fun _ => fun
  | [d] => { results := [.lit (.bool false)], args := [d] }
  | _ => none }
def FnChromaSidesWrongFalsely : Prop := fnChromaSidesRow.holds Try.pinned (OpenSpec.ofChange fnChromaSidesWrong)

/-- 'laws.FnExactYCbCrToRGB': WHATEVER THE INPUT: true; the input reads as it did. -/
def fnExactYCbCrToRGBSpec : ChangeSpec := { name := "fnExactYCbCrToRGB", fn := fun _ => fun
  | [d1, d2, d3] => { results := [.lit (.bool true)], args := [d1, d2, d3] }
  | _ => none }
def fnExactYCbCrToRGBRow : OpenClaim := { program := "ytfpngemkifhchaa", sum := "dffdc56a0e2f65dfaf87a5878bfd88dd4a25ddd48015669584a908ef05778cea", func := "loop.example/lib-colourvalues/laws.FnExactYCbCrToRGB", spec := "fnExactYCbCrToRGB", apart := false }
def FnExactYCbCrToRGBSaid : Prop := fnExactYCbCrToRGBRow.holds Try.pinned (OpenSpec.ofChange fnExactYCbCrToRGBSpec)

/-- ITS FALSE NEIGHBOUR: 'it returns false'. Refute it at one input. -/
def fnExactYCbCrToRGBWrong : ChangeSpec := { name := "fnExactYCbCrToRGB", fn := fun _ => fun
  | [d1, d2, d3] => { results := [.lit (.bool false)], args := [d1, d2, d3] }
  | _ => none }
def FnExactYCbCrToRGBWrongFalsely : Prop := fnExactYCbCrToRGBRow.holds Try.pinned (OpenSpec.ofChange fnExactYCbCrToRGBWrong)

/-- 'laws.FnGreyToRGB': WHATEVER THE INPUT: true; the input reads as it did. -/
def fnGreyToRGBSpec : ChangeSpec := { name := "fnGreyToRGB", fn := fun _ => fun
  | [d] => { results := [.lit (.bool true)], args := [d] }
  | _ => none }
def fnGreyToRGBRow : OpenClaim := { program := "ytfpngemkifhchaa", sum := "dffdc56a0e2f65dfaf87a5878bfd88dd4a25ddd48015669584a908ef05778cea", func := "loop.example/lib-colourvalues/laws.FnGreyToRGB", spec := "fnGreyToRGB", apart := false }
def FnGreyToRGBSaid : Prop := fnGreyToRGBRow.holds Try.pinned (OpenSpec.ofChange fnGreyToRGBSpec)

/-- ITS FALSE NEIGHBOUR: 'it returns false'. Refute it at one input. -/
def fnGreyToRGBWrong : ChangeSpec := { name := "fnGreyToRGB", fn := fun _ => fun
  | [d] => { results := [.lit (.bool false)], args := [d] }
  | _ => none }
def FnGreyToRGBWrongFalsely : Prop := fnGreyToRGBRow.holds Try.pinned (OpenSpec.ofChange fnGreyToRGBWrong)

/-- 'laws.FnAlphaRoad': WHATEVER THE INPUT: true; the input reads as it did. -/
def fnAlphaRoadSpec : ChangeSpec := { name := "fnAlphaRoad", fn := fun _ => fun
  | [d] => { results := [.lit (.bool true)], args := [d] }
  | _ => none }
def fnAlphaRoadRow : OpenClaim := { program := "ytfpngemkifhchaa", sum := "dffdc56a0e2f65dfaf87a5878bfd88dd4a25ddd48015669584a908ef05778cea", func := "loop.example/lib-colourvalues/laws.FnAlphaRoad", spec := "fnAlphaRoad", apart := false }
def FnAlphaRoadSaid : Prop := fnAlphaRoadRow.holds Try.pinned (OpenSpec.ofChange fnAlphaRoadSpec)

/-- ITS FALSE NEIGHBOUR: 'it returns false'. Refute it at one input. -/
def fnAlphaRoadWrong : ChangeSpec := { name := "fnAlphaRoad", fn := fun _ => fun
  | [d] => { results := [.lit (.bool false)], args := [d] }
  | _ => none }
def FnAlphaRoadWrongFalsely : Prop := fnAlphaRoadRow.holds Try.pinned (OpenSpec.ofChange fnAlphaRoadWrong)

/-- 'laws.FnLumaAlphaScaled': WHATEVER THE INPUT: true; the input reads as it did. -/
def fnLumaAlphaScaledSpec : ChangeSpec := { name := "fnLumaAlphaScaled", fn := fun _ => fun
  | [d] => { results := [.lit (.bool true)], args := [d] }
  | _ => none }
def fnLumaAlphaScaledRow : OpenClaim := { program := "ytfpngemkifhchaa", sum := "dffdc56a0e2f65dfaf87a5878bfd88dd4a25ddd48015669584a908ef05778cea", func := "loop.example/lib-colourvalues/laws.FnLumaAlphaScaled", spec := "fnLumaAlphaScaled", apart := false }
def FnLumaAlphaScaledSaid : Prop := fnLumaAlphaScaledRow.holds Try.pinned (OpenSpec.ofChange fnLumaAlphaScaledSpec)

/-- ITS FALSE NEIGHBOUR: 'it returns false'. Refute it at one input. -/
def fnLumaAlphaScaledWrong : ChangeSpec := { name := "fnLumaAlphaScaled", fn := fun _ => fun
  | [d] => { results := [.lit (.bool false)], args := [d] }
  | _ => none }
def FnLumaAlphaScaledWrongFalsely : Prop := fnLumaAlphaScaledRow.holds Try.pinned (OpenSpec.ofChange fnLumaAlphaScaledWrong)

/-- 'laws.FnLumaGrey': WHATEVER THE INPUT: true; the input reads as it did. -/
def fnLumaGreySpec : ChangeSpec := { name := "fnLumaGrey", fn := fun _ => fun
  | [d] => { results := [.lit (.bool true)], args := [d] }
  | _ => none }
def fnLumaGreyRow : OpenClaim := { program := "ytfpngemkifhchaa", sum := "dffdc56a0e2f65dfaf87a5878bfd88dd4a25ddd48015669584a908ef05778cea", func := "loop.example/lib-colourvalues/laws.FnLumaGrey", spec := "fnLumaGrey", apart := false }
def FnLumaGreySaid : Prop := fnLumaGreyRow.holds Try.pinned (OpenSpec.ofChange fnLumaGreySpec)

/-- ITS FALSE NEIGHBOUR: 'it returns false'. Refute it at one input. -/
def fnLumaGreyWrong : ChangeSpec := { name := "fnLumaGrey", fn := fun _ => fun
  | [d] => { results := [.lit (.bool false)], args := [d] }
  | _ => none }
def FnLumaGreyWrongFalsely : Prop := fnLumaGreyRow.holds Try.pinned (OpenSpec.ofChange fnLumaGreyWrong)

/-- 'laws.FnChromaAlone': WHATEVER THE INPUT: true; the input reads as it did. -/
def fnChromaAloneSpec : ChangeSpec := { name := "fnChromaAlone", fn := fun _ => fun
  | [d] => { results := [.lit (.bool true)], args := [d] }
  | _ => none }
def fnChromaAloneRow : OpenClaim := { program := "ytfpngemkifhchaa", sum := "dffdc56a0e2f65dfaf87a5878bfd88dd4a25ddd48015669584a908ef05778cea", func := "loop.example/lib-colourvalues/laws.FnChromaAlone", spec := "fnChromaAlone", apart := false }
def FnChromaAloneSaid : Prop := fnChromaAloneRow.holds Try.pinned (OpenSpec.ofChange fnChromaAloneSpec)

/-- ITS FALSE NEIGHBOUR: 'it returns false'. Refute it at one input. -/
def fnChromaAloneWrong : ChangeSpec := { name := "fnChromaAlone", fn := fun _ => fun
  | [d] => { results := [.lit (.bool false)], args := [d] }
  | _ => none }
def FnChromaAloneWrongFalsely : Prop := fnChromaAloneRow.holds Try.pinned (OpenSpec.ofChange fnChromaAloneWrong)

/- THE SECOND FORM. 'bulk': how many values and letters a reading holds, each counted each time it is reached (what is shared counts as often as it is met; a slice's spare places count too). A statement '..UptoSaid' is the law's where the arguments, and the package variables that the reading takes, are together of bulk at most 1048576: NARROWER than '..Said'. Prove '..Said' where nothing that the law and all that it calls make is longer than what came in: it says more and counts as full. Else prove '..UptoSaid'. A law counts once. -/
mutual
def uptoBulk {H : Type} : DataW H → Nat
  | .lit (.string bytes) => bytes.length + 1
  | .lit _ => 1
  | .nil => 1
  | .ptr d => uptoBulk d + 1
  | .slice elems spare => uptoBulkAll elems + uptoBulkAll spare + 1
  | .agg parts => uptoBulkAll parts + 1
  | .iface _ d => uptoBulk d + 1
  | .map entries => uptoBulkEntries entries + 1
  | .held _ => 1
def uptoBulkAll {H : Type} : List (DataW H) → Nat
  | [] => 0
  | d :: r => uptoBulk d + uptoBulkAll r
def uptoBulkEntries {H : Type} : List (Lit × DataW H) → Nat
  | [] => 0
  | x :: r => uptoBulkEntry x + uptoBulkEntries r
def uptoBulkEntry {H : Type} : Lit × DataW H → Nat
  | (.string bytes, d) => bytes.length + uptoBulk d + 1
  | (_, d) => uptoBulk d + 1
 end
def uptoSmall : (H : Type) → List (DataW H) → Bool := fun _ ds => decide (uptoBulkAll ds ≤ 1048576)
def OpenSpec.upto (s : _root_.Go.ChangeSpec) : _root_.Go.OpenSpec := { _root_.Go.OpenSpec.ofChange s with cond := some uptoSmall }

/-- 'laws.FnOneInkNone', WHERE WHAT IT READS IS OF BULK AT MOST 1048576: true; the input reads as it did. -/
def fnOneInkNoneUptoRow : OpenClaim := { program := "ytfpngemkifhchaa", sum := "dffdc56a0e2f65dfaf87a5878bfd88dd4a25ddd48015669584a908ef05778cea", func := "loop.example/lib-colourvalues/laws.FnOneInkNone", spec := "fnOneInkNone", apart := false, narrowed := true }
def FnOneInkNoneUptoSaid : Prop := fnOneInkNoneUptoRow.holds Try.pinned (OpenSpec.upto fnOneInkNoneSpec)

/-- 'laws.FnOpaqueWideRoad', WHERE WHAT IT READS IS OF BULK AT MOST 1048576: true; the input reads as it did. -/
def fnOpaqueWideRoadUptoRow : OpenClaim := { program := "ytfpngemkifhchaa", sum := "dffdc56a0e2f65dfaf87a5878bfd88dd4a25ddd48015669584a908ef05778cea", func := "loop.example/lib-colourvalues/laws.FnOpaqueWideRoad", spec := "fnOpaqueWideRoad", apart := false, narrowed := true }
def FnOpaqueWideRoadUptoSaid : Prop := fnOpaqueWideRoadUptoRow.holds Try.pinned (OpenSpec.upto fnOpaqueWideRoadSpec)

/-- 'laws.FnOpaqueRoad', WHERE WHAT IT READS IS OF BULK AT MOST 1048576: true; the input reads as it did. -/
def fnOpaqueRoadUptoRow : OpenClaim := { program := "ytfpngemkifhchaa", sum := "dffdc56a0e2f65dfaf87a5878bfd88dd4a25ddd48015669584a908ef05778cea", func := "loop.example/lib-colourvalues/laws.FnOpaqueRoad", spec := "fnOpaqueRoad", apart := false, narrowed := true }
def FnOpaqueRoadUptoSaid : Prop := fnOpaqueRoadUptoRow.holds Try.pinned (OpenSpec.upto fnOpaqueRoadSpec)

/-- 'laws.FnGreyRoad', WHERE WHAT IT READS IS OF BULK AT MOST 1048576: true; the input reads as it did. -/
def fnGreyRoadUptoRow : OpenClaim := { program := "ytfpngemkifhchaa", sum := "dffdc56a0e2f65dfaf87a5878bfd88dd4a25ddd48015669584a908ef05778cea", func := "loop.example/lib-colourvalues/laws.FnGreyRoad", spec := "fnGreyRoad", apart := false, narrowed := true }
def FnGreyRoadUptoSaid : Prop := fnGreyRoadUptoRow.holds Try.pinned (OpenSpec.upto fnGreyRoadSpec)

/-- 'laws.FnWideRoad', WHERE WHAT IT READS IS OF BULK AT MOST 1048576: true; the input reads as it did. -/
def fnWideRoadUptoRow : OpenClaim := { program := "ytfpngemkifhchaa", sum := "dffdc56a0e2f65dfaf87a5878bfd88dd4a25ddd48015669584a908ef05778cea", func := "loop.example/lib-colourvalues/laws.FnWideRoad", spec := "fnWideRoad", apart := false, narrowed := true }
def FnWideRoadUptoSaid : Prop := fnWideRoadUptoRow.holds Try.pinned (OpenSpec.upto fnWideRoadSpec)

/-- 'laws.FnChromaSides', WHERE WHAT IT READS IS OF BULK AT MOST 1048576: true; the input reads as it did. -/
def fnChromaSidesUptoRow : OpenClaim := { program := "ytfpngemkifhchaa", sum := "dffdc56a0e2f65dfaf87a5878bfd88dd4a25ddd48015669584a908ef05778cea", func := "loop.example/lib-colourvalues/laws.FnChromaSides", spec := "fnChromaSides", apart := false, narrowed := true }
def FnChromaSidesUptoSaid : Prop := fnChromaSidesUptoRow.holds Try.pinned (OpenSpec.upto fnChromaSidesSpec)

/-- 'laws.FnExactYCbCrToRGB', WHERE WHAT IT READS IS OF BULK AT MOST 1048576: true; the input reads as it did. -/
def fnExactYCbCrToRGBUptoRow : OpenClaim := { program := "ytfpngemkifhchaa", sum := "dffdc56a0e2f65dfaf87a5878bfd88dd4a25ddd48015669584a908ef05778cea", func := "loop.example/lib-colourvalues/laws.FnExactYCbCrToRGB", spec := "fnExactYCbCrToRGB", apart := false, narrowed := true }
def FnExactYCbCrToRGBUptoSaid : Prop := fnExactYCbCrToRGBUptoRow.holds Try.pinned (OpenSpec.upto fnExactYCbCrToRGBSpec)

/-- 'laws.FnGreyToRGB', WHERE WHAT IT READS IS OF BULK AT MOST 1048576: true; the input reads as it did. -/
def fnGreyToRGBUptoRow : OpenClaim := { program := "ytfpngemkifhchaa", sum := "dffdc56a0e2f65dfaf87a5878bfd88dd4a25ddd48015669584a908ef05778cea", func := "loop.example/lib-colourvalues/laws.FnGreyToRGB", spec := "fnGreyToRGB", apart := false, narrowed := true }
def FnGreyToRGBUptoSaid : Prop := fnGreyToRGBUptoRow.holds Try.pinned (OpenSpec.upto fnGreyToRGBSpec)

/-- 'laws.FnAlphaRoad', WHERE WHAT IT READS IS OF BULK AT MOST 1048576: true; the input reads as it did. -/
def fnAlphaRoadUptoRow : OpenClaim := { program := "ytfpngemkifhchaa", sum := "dffdc56a0e2f65dfaf87a5878bfd88dd4a25ddd48015669584a908ef05778cea", func := "loop.example/lib-colourvalues/laws.FnAlphaRoad", spec := "fnAlphaRoad", apart := false, narrowed := true }
def FnAlphaRoadUptoSaid : Prop := fnAlphaRoadUptoRow.holds Try.pinned (OpenSpec.upto fnAlphaRoadSpec)

/-- 'laws.FnLumaAlphaScaled', WHERE WHAT IT READS IS OF BULK AT MOST 1048576: true; the input reads as it did. -/
def fnLumaAlphaScaledUptoRow : OpenClaim := { program := "ytfpngemkifhchaa", sum := "dffdc56a0e2f65dfaf87a5878bfd88dd4a25ddd48015669584a908ef05778cea", func := "loop.example/lib-colourvalues/laws.FnLumaAlphaScaled", spec := "fnLumaAlphaScaled", apart := false, narrowed := true }
def FnLumaAlphaScaledUptoSaid : Prop := fnLumaAlphaScaledUptoRow.holds Try.pinned (OpenSpec.upto fnLumaAlphaScaledSpec)

/-- 'laws.FnLumaGrey', WHERE WHAT IT READS IS OF BULK AT MOST 1048576: true; the input reads as it did. -/
def fnLumaGreyUptoRow : OpenClaim := { program := "ytfpngemkifhchaa", sum := "dffdc56a0e2f65dfaf87a5878bfd88dd4a25ddd48015669584a908ef05778cea", func := "loop.example/lib-colourvalues/laws.FnLumaGrey", spec := "fnLumaGrey", apart := false, narrowed := true }
def FnLumaGreyUptoSaid : Prop := fnLumaGreyUptoRow.holds Try.pinned (OpenSpec.upto fnLumaGreySpec)

/-- 'laws.FnChromaAlone', WHERE WHAT IT READS IS OF BULK AT MOST 1048576: true; the input reads as it did. -/
def fnChromaAloneUptoRow : OpenClaim := { program := "ytfpngemkifhchaa", sum := "dffdc56a0e2f65dfaf87a5878bfd88dd4a25ddd48015669584a908ef05778cea", func := "loop.example/lib-colourvalues/laws.FnChromaAlone", spec := "fnChromaAlone", apart := false, narrowed := true }
def FnChromaAloneUptoSaid : Prop := fnChromaAloneUptoRow.holds Try.pinned (OpenSpec.upto fnChromaAloneSpec)

end Rows
end Go.Proofs.Ytfpngemkifhchaa
