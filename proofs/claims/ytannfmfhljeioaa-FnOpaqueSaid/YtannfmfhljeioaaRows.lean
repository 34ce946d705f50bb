/-
  No cell of these rows narrows 'for every input' (looked for: loops, veiled, ifaces, maps, wideKeys, modest, calm, conditions, laid).
  DERIVED. THE GIVEN ROWS OF THIS SEAT. 12 by the template 'for every input the law returns true; each argument reads behind the call as it read before'; 0 by the template 'total and deterministic' (their statements: YtannfmfhljeioaaTotals.lean).
  GIVEN WITH THE SEED: the statements are not yours to turn. If you find one false, say at which input.
  Laid BY PROGRAM, IN A SANDBOX (cutbox-rows.mjs): the forced cells as the released guide's own fill.sh prints them over the translation 4d1f945fde7cbbd5… (all of the seat's roots in one cut). By AI agents, Wed Nov 11 2026. No macro, syntax, notation, axiom, sorry.
-/
import Derived.Test.YtannfmfhljeioaaChecked
import GoSem.Claim
import GoSem.ClaimJoined
import GoSem.ClaimMapViews
import Derived.JoinedTies
import Derived.KernelRfl
namespace Go.Proofs.Ytannfmfhljeioaa
/- THE CELL 'sum', in the pinned program and in every row, IS THE sha256 OF THE DUMP (.gsa) THAT YtannfmfhljeioaaProg.lean LOADS. Nothing in Lean hashes anything: it is a label: what it is worth is what the hold of that sum in a sandbox is worth. -/
noncomputable def Try.pinned : Pinned := { name := "ytannfmfhljeioaa", sum := "4d1f945fde7cbbd579089a2e88b019e4792feddfb2759ca3ce85d5eee1808518", checked := Try.checked }
namespace Rows
def none {H : Type} : Left H := { results := [], args := [] }

/-- 'laws.FnExactNRGBA64Value': WHATEVER THE INPUT: true; the input reads as it did. -/
def fnExactNRGBA64ValueSpec : ChangeSpec := { name := "fnExactNRGBA64Value", fn := fun _ => fun
  | [d1, d2, d3, d4] => { results := [.lit (.bool true)], args := [d1, d2, d3, d4] }
  | _ => none }
def fnExactNRGBA64ValueRow : OpenClaim := { program := "ytannfmfhljeioaa", sum := "4d1f945fde7cbbd579089a2e88b019e4792feddfb2759ca3ce85d5eee1808518", func := "loop.example/lib-colourvalues/laws.FnExactNRGBA64Value", spec := "fnExactNRGBA64Value", apart := false }
def FnExactNRGBA64ValueSaid : Prop := fnExactNRGBA64ValueRow.holds Try.pinned (OpenSpec.ofChange fnExactNRGBA64ValueSpec)

/-- ITS FALSE NEIGHBOUR: 'it returns false'. Refute it at one input. -/
def fnExactNRGBA64ValueWrong : ChangeSpec := { name := "fnExactNRGBA64Value", fn := fun _ => fun
  | [d1, d2, d3, d4] => { results := [.lit (.bool false)], args := [d1, d2, d3, d4] }
  | _ => none }
def FnExactNRGBA64ValueWrongFalsely : Prop := fnExactNRGBA64ValueRow.holds Try.pinned (OpenSpec.ofChange fnExactNRGBA64ValueWrong)

/-- 'laws.FnWideBelow': WHATEVER THE INPUT: true; the input reads as it did. -/
def fnWideBelowSpec : ChangeSpec := { name := "fnWideBelow", fn := fun _ => fun
  | [d] => { results := [.lit (.bool true)], args := [d] }
  | _ => none }
def fnWideBelowRow : OpenClaim := { program := "ytannfmfhljeioaa", sum := "4d1f945fde7cbbd579089a2e88b019e4792feddfb2759ca3ce85d5eee1808518", func := "loop.example/lib-colourvalues/laws.FnWideBelow", spec := "fnWideBelow", apart := false }
def FnWideBelowSaid : Prop := fnWideBelowRow.holds Try.pinned (OpenSpec.ofChange fnWideBelowSpec)

/-- ITS FALSE NEIGHBOUR: 'it returns false'. Refute it at one input. -/
def fnWideBelowWrong : ChangeSpec := { name := "fnWideBelow", fn := fun _ => fun
  | [d] => { results := [.lit (.bool false)], args := [d] }
  | _ => none }
def FnWideBelowWrongFalsely : Prop := fnWideBelowRow.holds Try.pinned (OpenSpec.ofChange fnWideBelowWrong)

/-- 'laws.FnWideNear': WHATEVER THE INPUT: true; the input reads as it did. -/
def fnWideNearSpec : ChangeSpec := { name := "fnWideNear", fn := fun _ => fun
  | [d] => { results := [.lit (.bool true)], args := [d] }
  | _ => none }
def fnWideNearRow : OpenClaim := { program := "ytannfmfhljeioaa", sum := "4d1f945fde7cbbd579089a2e88b019e4792feddfb2759ca3ce85d5eee1808518", func := "loop.example/lib-colourvalues/laws.FnWideNear", spec := "fnWideNear", apart := false }
def FnWideNearSaid : Prop := fnWideNearRow.holds Try.pinned (OpenSpec.ofChange fnWideNearSpec)

/-- ITS FALSE NEIGHBOUR: 'it returns false'. Refute it at one input. -/
def fnWideNearWrong : ChangeSpec := { name := "fnWideNear", fn := fun _ => fun
  | [d] => { results := [.lit (.bool false)], args := [d] }
  | _ => none }
def FnWideNearWrongFalsely : Prop := fnWideNearRow.holds Try.pinned (OpenSpec.ofChange fnWideNearWrong)

/-- 'laws.FnLumaAlphaOpaque': WHATEVER THE INPUT: true; the input reads as it did. -/
def fnLumaAlphaOpaqueSpec : ChangeSpec := { name := "fnLumaAlphaOpaque", fn := fun _ => fun
  | [d] => { results := [.lit (.bool true)], args := [d] }
  | _ => none }
def fnLumaAlphaOpaqueRow : OpenClaim := { program := "ytannfmfhljeioaa", sum := "4d1f945fde7cbbd579089a2e88b019e4792feddfb2759ca3ce85d5eee1808518", func := "loop.example/lib-colourvalues/laws.FnLumaAlphaOpaque", spec := "fnLumaAlphaOpaque", apart := false }
def FnLumaAlphaOpaqueSaid : Prop := fnLumaAlphaOpaqueRow.holds Try.pinned (OpenSpec.ofChange fnLumaAlphaOpaqueSpec)

/-- ITS FALSE NEIGHBOUR: 'it returns false'. Refute it at one input. -/
def fnLumaAlphaOpaqueWrong : ChangeSpec := { name := "fnLumaAlphaOpaque", fn := fun _ => fun
  | [d] => { results := [.lit (.bool false)], args := [d] }
  | _ => none }
def FnLumaAlphaOpaqueWrongFalsely : Prop := fnLumaAlphaOpaqueRow.holds Try.pinned (OpenSpec.ofChange fnLumaAlphaOpaqueWrong)

/-- 'laws.FnExactNRGBAValue': WHATEVER THE INPUT: true; the input reads as it did. -/
def fnExactNRGBAValueSpec : ChangeSpec := { name := "fnExactNRGBAValue", fn := fun _ => fun
  | [d1, d2, d3, d4] => { results := [.lit (.bool true)], args := [d1, d2, d3, d4] }
  | _ => none }
def fnExactNRGBAValueRow : OpenClaim := { program := "ytannfmfhljeioaa", sum := "4d1f945fde7cbbd579089a2e88b019e4792feddfb2759ca3ce85d5eee1808518", func := "loop.example/lib-colourvalues/laws.FnExactNRGBAValue", spec := "fnExactNRGBAValue", apart := false }
def FnExactNRGBAValueSaid : Prop := fnExactNRGBAValueRow.holds Try.pinned (OpenSpec.ofChange fnExactNRGBAValueSpec)

/-- ITS FALSE NEIGHBOUR: 'it returns false'. Refute it at one input. -/
def fnExactNRGBAValueWrong : ChangeSpec := { name := "fnExactNRGBAValue", fn := fun _ => fun
  | [d1, d2, d3, d4] => { results := [.lit (.bool false)], args := [d1, d2, d3, d4] }
  | _ => none }
def FnExactNRGBAValueWrongFalsely : Prop := fnExactNRGBAValueRow.holds Try.pinned (OpenSpec.ofChange fnExactNRGBAValueWrong)

/-- 'laws.FnOpaque': WHATEVER THE INPUT: true; the input reads as it did. -/
def fnOpaqueSpec : ChangeSpec := { name := "fnOpaque", fn := fun _ => fun
  | [d] => { results := [.lit (.bool true)], args := [d] }
  | _ => none }
def fnOpaqueRow : OpenClaim := { program := "ytannfmfhljeioaa", sum := "4d1f945fde7cbbd579089a2e88b019e4792feddfb2759ca3ce85d5eee1808518", func := "loop.example/lib-colourvalues/laws.FnOpaque", spec := "fnOpaque", apart := false }
def FnOpaqueSaid : Prop := fnOpaqueRow.holds Try.pinned (OpenSpec.ofChange fnOpaqueSpec)

/-- ITS FALSE NEIGHBOUR: 'it returns false'. Refute it at one input. -/
def fnOpaqueWrong : ChangeSpec := { name := "fnOpaque", fn := fun _ => fun
  | [d] => { results := [.lit (.bool false)], args := [d] }
  | _ => none }
def FnOpaqueWrongFalsely : Prop := fnOpaqueRow.holds Try.pinned (OpenSpec.ofChange fnOpaqueWrong)

/-- 'laws.FnScaledMonotone': WHATEVER THE INPUT: true; the input reads as it did. -/
def fnScaledMonotoneSpec : ChangeSpec := { name := "fnScaledMonotone", fn := fun _ => fun
  | [d] => { results := [.lit (.bool true)], args := [d] }
  | _ => none }
def fnScaledMonotoneRow : OpenClaim := { program := "ytannfmfhljeioaa", sum := "4d1f945fde7cbbd579089a2e88b019e4792feddfb2759ca3ce85d5eee1808518", func := "loop.example/lib-colourvalues/laws.FnScaledMonotone", spec := "fnScaledMonotone", apart := false }
def FnScaledMonotoneSaid : Prop := fnScaledMonotoneRow.holds Try.pinned (OpenSpec.ofChange fnScaledMonotoneSpec)

/-- ITS FALSE NEIGHBOUR: 'it returns false'. Refute it at one input. -/
def fnScaledMonotoneWrong : ChangeSpec := { name := "fnScaledMonotone", fn := fun _ => fun
  | [d] => { results := [.lit (.bool false)], args := [d] }
  | _ => none }
def FnScaledMonotoneWrongFalsely : Prop := fnScaledMonotoneRow.holds Try.pinned (OpenSpec.ofChange fnScaledMonotoneWrong)

/-- 'laws.FnScaledNear': WHATEVER THE INPUT: true; the input reads as it did. -/
def fnScaledNearSpec : ChangeSpec := { name := "fnScaledNear", fn := fun _ => fun
  | [d] => { results := [.lit (.bool true)], args := [d] }
  | _ => none }
def fnScaledNearRow : OpenClaim := { program := "ytannfmfhljeioaa", sum := "4d1f945fde7cbbd579089a2e88b019e4792feddfb2759ca3ce85d5eee1808518", func := "loop.example/lib-colourvalues/laws.FnScaledNear", spec := "fnScaledNear", apart := false }
def FnScaledNearSaid : Prop := fnScaledNearRow.holds Try.pinned (OpenSpec.ofChange fnScaledNearSpec)

/-- ITS FALSE NEIGHBOUR: 'it returns false'. Refute it at one input. -/
def fnScaledNearWrong : ChangeSpec := { name := "fnScaledNear", fn := fun _ => fun
  | [d] => { results := [.lit (.bool false)], args := [d] }
  | _ => none }
def FnScaledNearWrongFalsely : Prop := fnScaledNearRow.holds Try.pinned (OpenSpec.ofChange fnScaledNearWrong)

/-- 'laws.FnBlackInk': WHATEVER THE INPUT: true; the input reads as it did. -/
def fnBlackInkSpec : ChangeSpec := { name := "fnBlackInk", fn := fun _ => fun
  | [d] => { results := [.lit (.bool true)], args := [d] }
  | _ => none }
def fnBlackInkRow : OpenClaim := { program := "ytannfmfhljeioaa", sum := "4d1f945fde7cbbd579089a2e88b019e4792feddfb2759ca3ce85d5eee1808518", func := "loop.example/lib-colourvalues/laws.FnBlackInk", spec := "fnBlackInk", apart := false }
def FnBlackInkSaid : Prop := fnBlackInkRow.holds Try.pinned (OpenSpec.ofChange fnBlackInkSpec)

/-- ITS FALSE NEIGHBOUR: 'it returns false'. Refute it at one input. -/
def fnBlackInkWrong : ChangeSpec := { name := "fnBlackInk", fn := fun _ => fun
  | [d] => { results := [.lit (.bool false)], args := [d] }
  | _ => none }
def FnBlackInkWrongFalsely : Prop := fnBlackInkRow.holds Try.pinned (OpenSpec.ofChange fnBlackInkWrong)

/-- 'laws.FnBrightInk': WHATEVER THE INPUT: true; the input reads as it did. -/
def fnBrightInkSpec : ChangeSpec := { name := "fnBrightInk", fn := fun _ => fun
  | [d] => { results := [.lit (.bool true)], args := [d] }
  | _ => none }
def fnBrightInkRow : OpenClaim := { program := "ytannfmfhljeioaa", sum := "4d1f945fde7cbbd579089a2e88b019e4792feddfb2759ca3ce85d5eee1808518", func := "loop.example/lib-colourvalues/laws.FnBrightInk", spec := "fnBrightInk", apart := false }
def FnBrightInkSaid : Prop := fnBrightInkRow.holds Try.pinned (OpenSpec.ofChange fnBrightInkSpec)

/-- ITS FALSE NEIGHBOUR: 'it returns false'. Refute it at one input. -/
def fnBrightInkWrong : ChangeSpec := { name := "fnBrightInk", fn := fun _ => fun
  | [d] => { results := [.lit (.bool false)], args := [d] }
  | _ => none }
def FnBrightInkWrongFalsely : Prop := fnBrightInkRow.holds Try.pinned (OpenSpec.ofChange fnBrightInkWrong)

/-- 'laws.FnExactRGBToCMYK': WHATEVER THE INPUT: true; the input reads as it did. -/
def fnExactRGBToCMYKSpec : ChangeSpec := { name := "fnExactRGBToCMYK", fn := fun _ => fun
  | [d1, d2, d3] => { results := [.lit (.bool true)], args := [d1, d2, d3] }
  | _ => none }
def fnExactRGBToCMYKRow : OpenClaim := { program := "ytannfmfhljeioaa", sum := "4d1f945fde7cbbd579089a2e88b019e4792feddfb2759ca3ce85d5eee1808518", func := "loop.example/lib-colourvalues/laws.FnExactRGBToCMYK", spec := "fnExactRGBToCMYK", apart := false }
def FnExactRGBToCMYKSaid : Prop := fnExactRGBToCMYKRow.holds Try.pinned (OpenSpec.ofChange fnExactRGBToCMYKSpec)

/-- ITS FALSE NEIGHBOUR: 'it returns false'. Refute it at one input. -/
def fnExactRGBToCMYKWrong : ChangeSpec := { name := "fnExactRGBToCMYK", fn := fun _ => fun
  | [d1, d2, d3] => { results := [.lit (.bool false)], args := [d1, d2, d3] }
  | _ => none }
def FnExactRGBToCMYKWrongFalsely : Prop := fnExactRGBToCMYKRow.holds Try.pinned (OpenSpec.ofChange fnExactRGBToCMYKWrong)

/-- 'laws.FnLumaValueTop': WHATEVER THE INPUT: true; the input reads as it did. -/
def fnLumaValueTopSpec : ChangeSpec := { name := "fnLumaValueTop", fn := fun _ => fun
  | [d] => { results := [.lit (.bool true)], args := [d] }
  | _ => none }
def fnLumaValueTopRow : OpenClaim := { program := "ytannfmfhljeioaa", sum := "4d1f945fde7cbbd579089a2e88b019e4792feddfb2759ca3ce85d5eee1808518", func := "loop.example/lib-colourvalues/laws.FnLumaValueTop", spec := "fnLumaValueTop", apart := false }
def FnLumaValueTopSaid : Prop := fnLumaValueTopRow.holds Try.pinned (OpenSpec.ofChange fnLumaValueTopSpec)

/-- ITS FALSE NEIGHBOUR: 'it returns false'. Refute it at one input. -/
def fnLumaValueTopWrong : ChangeSpec := { name := "fnLumaValueTop", fn := fun _ => fun
  | [d] => { results := [.lit (.bool false)], args := [d] }
  | _ => none }
def FnLumaValueTopWrongFalsely : Prop := fnLumaValueTopRow.holds Try.pinned (OpenSpec.ofChange fnLumaValueTopWrong)

/- THE SECOND FORM. 'bulk': how many values and letters a reading holds, each counted each time it is reached (what is shared counts as often as it is met; a slice's spare places count too). A statement '..UptoSaid' is the law's where the arguments, and the package variables that the reading takes, are together of bulk at most 1048576: NARROWER than '..Said'. Prove '..Said' where nothing that the law and all that it calls make is longer than what came in: it says more and counts as full. Else prove '..UptoSaid'. A law counts once. -/
mutual
def uptoBulk {H : Type} : DataW H → Nat
  | .lit (.string bytes) => bytes.length + 1
  | .lit _ => 1
  | .nil => 1
  | .ptr d => uptoBulk d + 1
  | .slice elems spare => uptoBulkAll elems + uptoBulkAll spare + 1
  | .agg parts => uptoBulkAll parts + 1
  | .iface _ d => uptoBulk d + 1
  | .map entries => uptoBulkEntries entries + 1
  | .held _ => 1
def uptoBulkAll {H : Type} : List (DataW H) → Nat
  | [] => 0
  | d :: r => uptoBulk d + uptoBulkAll r
def uptoBulkEntries {H : Type} : List (Lit × DataW H) → Nat
  | [] => 0
  | x :: r => uptoBulkEntry x + uptoBulkEntries r
def uptoBulkEntry {H : Type} : Lit × DataW H → Nat
  | (.string bytes, d) => bytes.length + uptoBulk d + 1
  | (_, d) => uptoBulk d + 1
 end
def uptoSmall : (H : Type) → List (DataW H) → Bool := fun _ ds => decide (uptoBulkAll ds ≤ 1048576)
def OpenSpec.upto (s : _root_.Go.ChangeSpec) : _root_.Go.OpenSpec := { _root_.Go.OpenSpec.ofChange s with cond := some uptoSmall }

/-- 'laws.FnExactNRGBA64Value', WHERE WHAT IT READS IS OF BULK AT MOST 1048576: true; the input reads as it did. -/
def fnExactNRGBA64ValueUptoRow : OpenClaim := { program := "ytannfmfhljeioaa", sum := "4d1f945fde7cbbd579089a2e88b019e4792feddfb2759ca3ce85d5eee1808518", func := "loop.example/lib-colourvalues/laws.FnExactNRGBA64Value", spec := "fnExactNRGBA64Value", apart := false, narrowed := true }
def FnExactNRGBA64ValueUptoSaid : Prop := fnExactNRGBA64ValueUptoRow.holds Try.pinned (OpenSpec.upto fnExactNRGBA64ValueSpec)

/-- 'laws.FnWideBelow', WHERE WHAT IT READS IS OF BULK AT MOST 1048576: true; the input reads as it did. -/
def fnWideBelowUptoRow : OpenClaim := { program := "ytannfmfhljeioaa", sum := "4d1f945fde7cbbd579089a2e88b019e4792feddfb2759ca3ce85d5eee1808518", func := "loop.example/lib-colourvalues/laws.FnWideBelow", spec := "fnWideBelow", apart := false, narrowed := true }
def FnWideBelowUptoSaid : Prop := fnWideBelowUptoRow.holds Try.pinned (OpenSpec.upto fnWideBelowSpec)

/-- 'laws.FnWideNear', WHERE WHAT IT READS IS OF BULK AT MOST 1048576: true; the input reads as it did. -/
def fnWideNearUptoRow : OpenClaim := { program := "ytannfmfhljeioaa", sum := "4d1f945fde7cbbd579089a2e88b019e4792feddfb2759ca3ce85d5eee1808518", func := "loop.example/lib-colourvalues/laws.FnWideNear", spec := "fnWideNear", apart := false, narrowed := true }
def FnWideNearUptoSaid : Prop := fnWideNearUptoRow.holds Try.pinned (OpenSpec.upto fnWideNearSpec)

/-- 'laws.FnLumaAlphaOpaque', WHERE WHAT IT READS IS OF BULK AT MOST 1048576: true; the input reads as it did. -/
def fnLumaAlphaOpaqueUptoRow : OpenClaim := { program := "ytannfmfhljeioaa", sum := "4d1f945fde7cbbd579089a2e88b019e4792feddfb2759ca3ce85d5eee1808518", func := "loop.example/lib-colourvalues/laws.FnLumaAlphaOpaque", spec := "fnLumaAlphaOpaque", apart := false, narrowed := true }
def FnLumaAlphaOpaqueUptoSaid : Prop := fnLumaAlphaOpaqueUptoRow.holds Try.pinned (OpenSpec.upto fnLumaAlphaOpaqueSpec)

/-- 'laws.FnExactNRGBAValue', WHERE WHAT IT READS IS OF BULK AT MOST 1048576: true; the input reads as it did. -/
def fnExactNRGBAValueUptoRow : OpenClaim := { program := "ytannfmfhljeioaa", sum := "4d1f945fde7cbbd579089a2e88b019e4792feddfb2759ca3ce85d5eee1808518", func := "loop.example/lib-colourvalues/laws.FnExactNRGBAValue", spec := "fnExactNRGBAValue", apart := false, narrowed := true }
def FnExactNRGBAValueUptoSaid : Prop := fnExactNRGBAValueUptoRow.holds Try.pinned (OpenSpec.upto fnExactNRGBAValueSpec)

/-- 'laws.FnOpaque', WHERE WHAT IT READS IS OF BULK AT MOST 1048576: true; the input reads as it did. -/
def fnOpaqueUptoRow : OpenClaim := { program := "ytannfmfhljeioaa", sum := "4d1f945fde7cbbd579089a2e88b019e4792feddfb2759ca3ce85d5eee1808518", func := "loop.example/lib-colourvalues/laws.FnOpaque", spec := "fnOpaque", apart := false, narrowed := true }
def FnOpaqueUptoSaid : Prop := fnOpaqueUptoRow.holds Try.pinned (OpenSpec.upto fnOpaqueSpec)

/-- 'laws.FnScaledMonotone', WHERE WHAT IT READS IS OF BULK AT MOST 1048576: true; the input reads as it did. -/
def fnScaledMonotoneUptoRow : OpenClaim := { program := "ytannfmfhljeioaa", sum := "4d1f945fde7cbbd579089a2e88b019e4792feddfb2759ca3ce85d5eee1808518", func := "loop.example/lib-colourvalues/laws.FnScaledMonotone", spec := "fnScaledMonotone", apart := false, narrowed := true }
def FnScaledMonotoneUptoSaid : Prop := fnScaledMonotoneUptoRow.holds Try.pinned (OpenSpec.upto fnScaledMonotoneSpec)

/-- 'laws.FnScaledNear', WHERE WHAT IT READS IS OF BULK AT MOST 1048576: true; the input reads as it did. -/
def fnScaledNearUptoRow : OpenClaim := { program := "ytannfmfhljeioaa", sum := "4d1f945fde7cbbd579089a2e88b019e4792feddfb2759ca3ce85d5eee1808518", func := "loop.example/lib-colourvalues/laws.FnScaledNear", spec := "fnScaledNear", apart := false, narrowed := true }
def FnScaledNearUptoSaid : Prop := fnScaledNearUptoRow.holds Try.pinned (OpenSpec.upto fnScaledNearSpec)

/-- 'laws.FnBlackInk', WHERE WHAT IT READS IS OF BULK AT MOST 1048576: true; the input reads as it did. -/
def fnBlackInkUptoRow : OpenClaim := { program := "ytannfmfhljeioaa", sum := "4d1f945fde7cbbd579089a2e88b019e4792feddfb2759ca3ce85d5eee1808518", func := "loop.example/lib-colourvalues/laws.FnBlackInk", spec := "fnBlackInk", apart := false, narrowed := true }
def FnBlackInkUptoSaid : Prop := fnBlackInkUptoRow.holds Try.pinned (OpenSpec.upto fnBlackInkSpec)

/-- 'laws.FnBrightInk', WHERE WHAT IT READS IS OF BULK AT MOST 1048576: true; the input reads as it did. -/
def fnBrightInkUptoRow : OpenClaim := { program := "ytannfmfhljeioaa", sum := "4d1f945fde7cbbd579089a2e88b019e4792feddfb2759ca3ce85d5eee1808518", func := "loop.example/lib-colourvalues/laws.FnBrightInk", spec := "fnBrightInk", apart := false, narrowed := true }
def FnBrightInkUptoSaid : Prop := fnBrightInkUptoRow.holds Try.pinned (OpenSpec.upto fnBrightInkSpec)

/-- 'laws.FnExactRGBToCMYK', WHERE WHAT IT READS IS OF BULK AT MOST 1048576: true; the input reads as it did. -/
def fnExactRGBToCMYKUptoRow : OpenClaim := { program := "ytannfmfhljeioaa", sum := "4d1f945fde7cbbd579089a2e88b019e4792feddfb2759ca3ce85d5eee1808518", func := "loop.example/lib-colourvalues/laws.FnExactRGBToCMYK", spec := "fnExactRGBToCMYK", apart := false, narrowed := true }
def FnExactRGBToCMYKUptoSaid : Prop := fnExactRGBToCMYKUptoRow.holds Try.pinned (OpenSpec.upto fnExactRGBToCMYKSpec)

/-- 'laws.FnLumaValueTop', WHERE WHAT IT READS IS OF BULK AT MOST 1048576: true; the input reads as it did. -/
def fnLumaValueTopUptoRow : OpenClaim := { program := "ytannfmfhljeioaa", sum := "4d1f945fde7cbbd579089a2e88b019e4792feddfb2759ca3ce85d5eee1808518", func := "loop.example/lib-colourvalues/laws.FnLumaValueTop", spec := "fnLumaValueTop", apart := false, narrowed := true }
def FnLumaValueTopUptoSaid : Prop := fnLumaValueTopUptoRow.holds Try.pinned (OpenSpec.upto fnLumaValueTopSpec)

end Rows
end Go.Proofs.Ytannfmfhljeioaa
