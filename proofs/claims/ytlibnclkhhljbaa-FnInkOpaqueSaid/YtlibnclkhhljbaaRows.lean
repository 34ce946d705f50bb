/-
  No cell of these rows narrows 'for every input' (looked for: loops, veiled, ifaces, maps, wideKeys, modest, calm, conditions, laid).
  DERIVED. THE GIVEN ROWS OF THIS SEAT. 12 by the template 'for every input the law returns true; each argument reads behind the call as it read before'; 0 by the template 'total and deterministic' (their statements: YtlibnclkhhljbaaTotals.lean).
  GIVEN WITH THE SEED: the statements are not yours to turn. If you find one false, say at which input.
  Laid BY PROGRAM, IN A SANDBOX (cutbox-rows.mjs): the forced cells as the released guide's own fill.sh prints them over the translation 4137eee52d310d55… (all of the seat's roots in one cut). By AI agents, Wed Nov 11 2026. No macro, syntax, notation, axiom, sorry.
-/
import Derived.Test.YtlibnclkhhljbaaChecked
import GoSem.Claim
import GoSem.ClaimJoined
import GoSem.ClaimMapViews
import Derived.JoinedTies
import Derived.KernelRfl
namespace Go.Proofs.Ytlibnclkhhljbaa
/- THE CELL 'sum', in the pinned program and in every row, IS THE sha256 OF THE DUMP (.gsa) THAT YtlibnclkhhljbaaProg.lean LOADS. Nothing in Lean hashes anything: it is a label: what it is worth is what the hold of that sum in a sandbox is worth. -/
noncomputable def Try.pinned : Pinned := { name := "ytlibnclkhhljbaa", sum := "4137eee52d310d55ccfef1237f6970928428b8de4806d3062e3d552db3720067", checked := Try.checked }
namespace Rows
def none {H : Type} : Left H := { results := [], args := [] }

/-- 'laws.FnExactRGBA64Value': WHATEVER THE INPUT: true; the input reads as it did. -/
def fnExactRGBA64ValueSpec : ChangeSpec := { name := "fnExactRGBA64Value", fn := fun _ => fun
  | [d1, d2, d3, d4] => { results := [.lit (.bool true)], args := [d1, d2, d3, d4] }
  | _ => none }
def fnExactRGBA64ValueRow : OpenClaim := { program := "ytlibnclkhhljbaa", sum := "4137eee52d310d55ccfef1237f6970928428b8de4806d3062e3d552db3720067", func := "loop.example/lib-colourvalues/laws.FnExactRGBA64Value", spec := "fnExactRGBA64Value", apart := false }
def FnExactRGBA64ValueSaid : Prop := fnExactRGBA64ValueRow.holds Try.pinned (OpenSpec.ofChange fnExactRGBA64ValueSpec)

/-- ITS FALSE NEIGHBOUR: 'it returns false'. Refute it at one input. -/
def fnExactRGBA64ValueWrong : ChangeSpec := { name := "fnExactRGBA64Value", fn := fun _ => fun
  | [d1, d2, d3, d4] => { results := [.lit (.bool false)], args := [d1, d2, d3, d4] }
  | _ => none }
def FnExactRGBA64ValueWrongFalsely : Prop := fnExactRGBA64ValueRow.holds Try.pinned (OpenSpec.ofChange fnExactRGBA64ValueWrong)

/-- 'laws.FnExactAlpha16Value': WHATEVER THE INPUT: true; the input reads as it did. -/
def fnExactAlpha16ValueSpec : ChangeSpec := { name := "fnExactAlpha16Value", fn := fun _ => fun
  | [d] => { results := [.lit (.bool true)], args := [d] }
  | _ => none }
def fnExactAlpha16ValueRow : OpenClaim := { program := "ytlibnclkhhljbaa", sum := "4137eee52d310d55ccfef1237f6970928428b8de4806d3062e3d552db3720067", func := "loop.example/lib-colourvalues/laws.FnExactAlpha16Value", spec := "fnExactAlpha16Value", apart := false }
def FnExactAlpha16ValueSaid : Prop := fnExactAlpha16ValueRow.holds Try.pinned (OpenSpec.ofChange fnExactAlpha16ValueSpec)

/-- ITS FALSE NEIGHBOUR: 'it returns false'. Refute it at one input. -/
def fnExactAlpha16ValueWrong : ChangeSpec := { name := "fnExactAlpha16Value", fn := fun _ => fun
  | [d] => { results := [.lit (.bool false)], args := [d] }
  | _ => none }
def FnExactAlpha16ValueWrongFalsely : Prop := fnExactAlpha16ValueRow.holds Try.pinned (OpenSpec.ofChange fnExactAlpha16ValueWrong)

/-- 'laws.FnExactGray16Value': WHATEVER THE INPUT: true; the input reads as it did. -/
def fnExactGray16ValueSpec : ChangeSpec := { name := "fnExactGray16Value", fn := fun _ => fun
  | [d] => { results := [.lit (.bool true)], args := [d] }
  | _ => none }
def fnExactGray16ValueRow : OpenClaim := { program := "ytlibnclkhhljbaa", sum := "4137eee52d310d55ccfef1237f6970928428b8de4806d3062e3d552db3720067", func := "loop.example/lib-colourvalues/laws.FnExactGray16Value", spec := "fnExactGray16Value", apart := false }
def FnExactGray16ValueSaid : Prop := fnExactGray16ValueRow.holds Try.pinned (OpenSpec.ofChange fnExactGray16ValueSpec)

/-- ITS FALSE NEIGHBOUR: 'it returns false'. Refute it at one input. -/
def fnExactGray16ValueWrong : ChangeSpec := { name := "fnExactGray16Value", fn := fun _ => fun
  | [d] => { results := [.lit (.bool false)], args := [d] }
  | _ => none }
def FnExactGray16ValueWrongFalsely : Prop := fnExactGray16ValueRow.holds Try.pinned (OpenSpec.ofChange fnExactGray16ValueWrong)

/-- 'laws.FnExactAlphaValue': WHATEVER THE INPUT: true; the input reads as it did. -/
def fnExactAlphaValueSpec : ChangeSpec := { name := "fnExactAlphaValue", fn := fun _ => fun
  | [d] => { results := [.lit (.bool true)], args := [d] }
  | _ => none }
def fnExactAlphaValueRow : OpenClaim := { program := "ytlibnclkhhljbaa", sum := "4137eee52d310d55ccfef1237f6970928428b8de4806d3062e3d552db3720067", func := "loop.example/lib-colourvalues/laws.FnExactAlphaValue", spec := "fnExactAlphaValue", apart := false }
def FnExactAlphaValueSaid : Prop := fnExactAlphaValueRow.holds Try.pinned (OpenSpec.ofChange fnExactAlphaValueSpec)

/-- ITS FALSE NEIGHBOUR: 'it returns false'. Refute it at one input. -/
def fnExactAlphaValueWrong : ChangeSpec := { name := "fnExactAlphaValue", fn := fun _ => fun
  | [d] => { results := [.lit (.bool false)], args := [d] }
  | _ => none }
def FnExactAlphaValueWrongFalsely : Prop := fnExactAlphaValueRow.holds Try.pinned (OpenSpec.ofChange fnExactAlphaValueWrong)

/-- 'laws.FnExactGrayValue': WHATEVER THE INPUT: true; the input reads as it did. -/
def fnExactGrayValueSpec : ChangeSpec := { name := "fnExactGrayValue", fn := fun _ => fun
  | [d] => { results := [.lit (.bool true)], args := [d] }
  | _ => none }
def fnExactGrayValueRow : OpenClaim := { program := "ytlibnclkhhljbaa", sum := "4137eee52d310d55ccfef1237f6970928428b8de4806d3062e3d552db3720067", func := "loop.example/lib-colourvalues/laws.FnExactGrayValue", spec := "fnExactGrayValue", apart := false }
def FnExactGrayValueSaid : Prop := fnExactGrayValueRow.holds Try.pinned (OpenSpec.ofChange fnExactGrayValueSpec)

/-- ITS FALSE NEIGHBOUR: 'it returns false'. Refute it at one input. -/
def fnExactGrayValueWrong : ChangeSpec := { name := "fnExactGrayValue", fn := fun _ => fun
  | [d] => { results := [.lit (.bool false)], args := [d] }
  | _ => none }
def FnExactGrayValueWrongFalsely : Prop := fnExactGrayValueRow.holds Try.pinned (OpenSpec.ofChange fnExactGrayValueWrong)

/-- 'laws.FnInkAlone': WHATEVER THE INPUT: true; the input reads as it did. -/
def fnInkAloneSpec : ChangeSpec := { name := "fnInkAlone", fn := fun _ => fun
  | [d] => { results := [.lit (.bool true)], args := [d] }
  | _ => none }
def fnInkAloneRow : OpenClaim := { program := "ytlibnclkhhljbaa", sum := "4137eee52d310d55ccfef1237f6970928428b8de4806d3062e3d552db3720067", func := "loop.example/lib-colourvalues/laws.FnInkAlone", spec := "fnInkAlone", apart := false }
def FnInkAloneSaid : Prop := fnInkAloneRow.holds Try.pinned (OpenSpec.ofChange fnInkAloneSpec)

/-- ITS FALSE NEIGHBOUR: 'it returns false'. Refute it at one input. -/
def fnInkAloneWrong : ChangeSpec := { name := "fnInkAlone", fn := fun _ => fun
  | [d] => { results := [.lit (.bool false)], args := [d] }
  | _ => none }
def FnInkAloneWrongFalsely : Prop := fnInkAloneRow.holds Try.pinned (OpenSpec.ofChange fnInkAloneWrong)

/-- 'laws.FnInkNear': WHATEVER THE INPUT: true; the input reads as it did. -/
def fnInkNearSpec : ChangeSpec := { name := "fnInkNear", fn := fun _ => fun
  | [d] => { results := [.lit (.bool true)], args := [d] }
  | _ => none }
def fnInkNearRow : OpenClaim := { program := "ytlibnclkhhljbaa", sum := "4137eee52d310d55ccfef1237f6970928428b8de4806d3062e3d552db3720067", func := "loop.example/lib-colourvalues/laws.FnInkNear", spec := "fnInkNear", apart := false }
def FnInkNearSaid : Prop := fnInkNearRow.holds Try.pinned (OpenSpec.ofChange fnInkNearSpec)

/-- ITS FALSE NEIGHBOUR: 'it returns false'. Refute it at one input. -/
def fnInkNearWrong : ChangeSpec := { name := "fnInkNear", fn := fun _ => fun
  | [d] => { results := [.lit (.bool false)], args := [d] }
  | _ => none }
def FnInkNearWrongFalsely : Prop := fnInkNearRow.holds Try.pinned (OpenSpec.ofChange fnInkNearWrong)

/-- 'laws.FnYCbCrAndBack': WHATEVER THE INPUT: true; the input reads as it did. -/
def fnYCbCrAndBackSpec : ChangeSpec := { name := "fnYCbCrAndBack", fn := fun _ => fun
  | [d] => { results := [.lit (.bool true)], args := [d] }
  | _ => none }
def fnYCbCrAndBackRow : OpenClaim := { program := "ytlibnclkhhljbaa", sum := "4137eee52d310d55ccfef1237f6970928428b8de4806d3062e3d552db3720067", func := "loop.example/lib-colourvalues/laws.FnYCbCrAndBack", spec := "fnYCbCrAndBack", apart := false }
def FnYCbCrAndBackSaid : Prop := fnYCbCrAndBackRow.holds Try.pinned (OpenSpec.ofChange fnYCbCrAndBackSpec)

/-- ITS FALSE NEIGHBOUR: 'it returns false'. Refute it at one input. -/
def fnYCbCrAndBackWrong : ChangeSpec := { name := "fnYCbCrAndBack", fn := fun _ => fun
  | [d] => { results := [.lit (.bool false)], args := [d] }
  | _ => none }
def FnYCbCrAndBackWrongFalsely : Prop := fnYCbCrAndBackRow.holds Try.pinned (OpenSpec.ofChange fnYCbCrAndBackWrong)

/-- 'laws.FnInkToGrey': WHATEVER THE INPUT: true; the input reads as it did. -/
def fnInkToGreySpec : ChangeSpec := { name := "fnInkToGrey", fn := fun _ => fun
  | [d] => { results := [.lit (.bool true)], args := [d] }
  | _ => none }
def fnInkToGreyRow : OpenClaim := { program := "ytlibnclkhhljbaa", sum := "4137eee52d310d55ccfef1237f6970928428b8de4806d3062e3d552db3720067", func := "loop.example/lib-colourvalues/laws.FnInkToGrey", spec := "fnInkToGrey", apart := false }
def FnInkToGreySaid : Prop := fnInkToGreyRow.holds Try.pinned (OpenSpec.ofChange fnInkToGreySpec)

/-- ITS FALSE NEIGHBOUR: 'it returns false'. Refute it at one input. -/
def fnInkToGreyWrong : ChangeSpec := { name := "fnInkToGrey", fn := fun _ => fun
  | [d] => { results := [.lit (.bool false)], args := [d] }
  | _ => none }
def FnInkToGreyWrongFalsely : Prop := fnInkToGreyRow.holds Try.pinned (OpenSpec.ofChange fnInkToGreyWrong)

/-- 'laws.FnExactCMYKValue': WHATEVER THE INPUT: true; the input reads as it did. -/
def fnExactCMYKValueSpec : ChangeSpec := { name := "fnExactCMYKValue", fn := fun _ => fun
  | [d1, d2, d3, d4] => { results := [.lit (.bool true)], args := [d1, d2, d3, d4] }
  | _ => none }
def fnExactCMYKValueRow : OpenClaim := { program := "ytlibnclkhhljbaa", sum := "4137eee52d310d55ccfef1237f6970928428b8de4806d3062e3d552db3720067", func := "loop.example/lib-colourvalues/laws.FnExactCMYKValue", spec := "fnExactCMYKValue", apart := false }
def FnExactCMYKValueSaid : Prop := fnExactCMYKValueRow.holds Try.pinned (OpenSpec.ofChange fnExactCMYKValueSpec)

/-- ITS FALSE NEIGHBOUR: 'it returns false'. Refute it at one input. -/
def fnExactCMYKValueWrong : ChangeSpec := { name := "fnExactCMYKValue", fn := fun _ => fun
  | [d1, d2, d3, d4] => { results := [.lit (.bool false)], args := [d1, d2, d3, d4] }
  | _ => none }
def FnExactCMYKValueWrongFalsely : Prop := fnExactCMYKValueRow.holds Try.pinned (OpenSpec.ofChange fnExactCMYKValueWrong)

/-- 'laws.FnInkOpaque': WHATEVER THE INPUT: true; the input reads as it did. -/
def fnInkOpaqueSpec : ChangeSpec := { name := "fnInkOpaque", fn := fun _ => fun
  | [d] => { results := [.lit (.bool true)], args := [d] }
  | _ => none }
def fnInkOpaqueRow : OpenClaim := { program := "ytlibnclkhhljbaa", sum := "4137eee52d310d55ccfef1237f6970928428b8de4806d3062e3d552db3720067", func := "loop.example/lib-colourvalues/laws.FnInkOpaque", spec := "fnInkOpaque", apart := false }
def FnInkOpaqueSaid : Prop := fnInkOpaqueRow.holds Try.pinned (OpenSpec.ofChange fnInkOpaqueSpec)

/-- ITS FALSE NEIGHBOUR: 'it returns false'. Refute it at one input. -/
def fnInkOpaqueWrong : ChangeSpec := { name := "fnInkOpaque", fn := fun _ => fun
  | [d] => { results := [.lit (.bool false)], args := [d] }
  | _ => none }
def FnInkOpaqueWrongFalsely : Prop := fnInkOpaqueRow.holds Try.pinned (OpenSpec.ofChange fnInkOpaqueWrong)

/-- 'laws.FnExactRGBAValue': WHATEVER THE INPUT: true; the input reads as it did. -/
def fnExactRGBAValueSpec : ChangeSpec := { name := "fnExactRGBAValue", fn := fun _ => fun
  | [d1, d2, d3, d4] => { results := [.lit (.bool true)], args := [d1, d2, d3, d4] }
  | _ => none }
def fnExactRGBAValueRow : OpenClaim := { program := "ytlibnclkhhljbaa", sum := "4137eee52d310d55ccfef1237f6970928428b8de4806d3062e3d552db3720067", func := "loop.example/lib-colourvalues/laws.FnExactRGBAValue", spec := "fnExactRGBAValue", apart := false }
def FnExactRGBAValueSaid : Prop := fnExactRGBAValueRow.holds Try.pinned (OpenSpec.ofChange fnExactRGBAValueSpec)

/-- ITS FALSE NEIGHBOUR: 'it returns false'. Refute it at one input. -/
def fnExactRGBAValueWrong : ChangeSpec := { name := "fnExactRGBAValue", fn := fun _ => fun
  | [d1, d2, d3, d4] => { results := [.lit (.bool false)], args := [d1, d2, d3, d4] }
  | _ => none }
def FnExactRGBAValueWrongFalsely : Prop := fnExactRGBAValueRow.holds Try.pinned (OpenSpec.ofChange fnExactRGBAValueWrong)

/- THE SECOND FORM. 'bulk': how many values and letters a reading holds, each counted each time it is reached (what is shared counts as often as it is met; a slice's spare places count too). A statement '..UptoSaid' is the law's where the arguments, and the package variables that the reading takes, are together of bulk at most 1048576: NARROWER than '..Said'. Prove '..Said' where nothing that the law and all that it calls make is longer than what came in: it says more and counts as full. Else prove '..UptoSaid'. A law counts once. -/
mutual
def uptoBulk {H : Type} : DataW H → Nat
  | .lit (.string bytes) => bytes.length + 1
  | .lit _ => 1
  | .nil => 1
  | .ptr d => uptoBulk d + 1
  | .slice elems spare => uptoBulkAll elems + uptoBulkAll spare + 1
  | .agg parts => uptoBulkAll parts + 1
  | .iface _ d => uptoBulk d + 1
  | .map entries => uptoBulkEntries entries + 1
  | .held _ => 1
def uptoBulkAll {H : Type} : List (DataW H) → Nat
  | [] => 0
  | d :: r => uptoBulk d + uptoBulkAll r
def uptoBulkEntries {H : Type} : List (Lit × DataW H) → Nat
  | [] => 0
  | x :: r => uptoBulkEntry x + uptoBulkEntries r
def uptoBulkEntry {H : Type} : Lit × DataW H → Nat
  | (.string bytes, d) => bytes.length + uptoBulk d + 1
  | (_, d) => uptoBulk d + 1
 end
def uptoSmall : (H : Type) → List (DataW H) → Bool := fun _ ds => decide (uptoBulkAll ds ≤ 1048576)
def OpenSpec.upto (s : _root_.Go.ChangeSpec) : _root_.Go.OpenSpec := { _root_.Go.OpenSpec.ofChange s with cond := some uptoSmall }

/-- 'laws.FnExactRGBA64Value', WHERE WHAT IT READS IS OF BULK AT MOST 1048576: true; the input reads as it did. -/
def fnExactRGBA64ValueUptoRow : OpenClaim := { program := "ytlibnclkhhljbaa", sum := "4137eee52d310d55ccfef1237f6970928428b8de4806d3062e3d552db3720067", func := "loop.example/lib-colourvalues/laws.FnExactRGBA64Value", spec := "fnExactRGBA64Value", apart := false, narrowed := true }
def FnExactRGBA64ValueUptoSaid : Prop := fnExactRGBA64ValueUptoRow.holds Try.pinned (OpenSpec.upto fnExactRGBA64ValueSpec)

/-- 'laws.FnExactAlpha16Value', WHERE WHAT IT READS IS OF BULK AT MOST 1048576: true; the input reads as it did. -/
def fnExactAlpha16ValueUptoRow : OpenClaim := { program := "ytlibnclkhhljbaa", sum := "4137eee52d310d55ccfef1237f6970928428b8de4806d3062e3d552db3720067", func := "loop.example/lib-colourvalues/laws.FnExactAlpha16Value", spec := "fnExactAlpha16Value", apart := false, narrowed := true }
def FnExactAlpha16ValueUptoSaid : Prop := fnExactAlpha16ValueUptoRow.holds Try.pinned (OpenSpec.upto fnExactAlpha16ValueSpec)

/-- 'laws.FnExactGray16Value', WHERE WHAT IT READS IS OF BULK AT MOST 1048576: true; the input reads as it did. -/
def fnExactGray16ValueUptoRow : OpenClaim := { program := "ytlibnclkhhljbaa", sum := "4137eee52d310d55ccfef1237f6970928428b8de4806d3062e3d552db3720067", func := "loop.example/lib-colourvalues/laws.FnExactGray16Value", spec := "fnExactGray16Value", apart := false, narrowed := true }
def FnExactGray16ValueUptoSaid : Prop := fnExactGray16ValueUptoRow.holds Try.pinned (OpenSpec.upto fnExactGray16ValueSpec)

/-- 'laws.FnExactAlphaValue', WHERE WHAT IT READS IS OF BULK AT MOST 1048576: true; the input reads as it did. -/
def fnExactAlphaValueUptoRow : OpenClaim := { program := "ytlibnclkhhljbaa", sum := "4137eee52d310d55ccfef1237f6970928428b8de4806d3062e3d552db3720067", func := "loop.example/lib-colourvalues/laws.FnExactAlphaValue", spec := "fnExactAlphaValue", apart := false, narrowed := true }
def FnExactAlphaValueUptoSaid : Prop := fnExactAlphaValueUptoRow.holds Try.pinned (OpenSpec.upto fnExactAlphaValueSpec)

/-- 'laws.FnExactGrayValue', WHERE WHAT IT READS IS OF BULK AT MOST 1048576: true; the input reads as it did. -/
def fnExactGrayValueUptoRow : OpenClaim := { program := "ytlibnclkhhljbaa", sum := "4137eee52d310d55ccfef1237f6970928428b8de4806d3062e3d552db3720067", func := "loop.example/lib-colourvalues/laws.FnExactGrayValue", spec := "fnExactGrayValue", apart := false, narrowed := true }
def FnExactGrayValueUptoSaid : Prop := fnExactGrayValueUptoRow.holds Try.pinned (OpenSpec.upto fnExactGrayValueSpec)

/-- 'laws.FnInkAlone', WHERE WHAT IT READS IS OF BULK AT MOST 1048576: true; the input reads as it did. -/
def fnInkAloneUptoRow : OpenClaim := { program := "ytlibnclkhhljbaa", sum := "4137eee52d310d55ccfef1237f6970928428b8de4806d3062e3d552db3720067", func := "loop.example/lib-colourvalues/laws.FnInkAlone", spec := "fnInkAlone", apart := false, narrowed := true }
def FnInkAloneUptoSaid : Prop := fnInkAloneUptoRow.holds Try.pinned (OpenSpec.upto fnInkAloneSpec)

/-- 'laws.FnInkNear', WHERE WHAT IT READS IS OF BULK AT MOST 1048576: true; the input reads as it did. -/
def fnInkNearUptoRow : OpenClaim := { program := "ytlibnclkhhljbaa", sum := "4137eee52d310d55ccfef1237f6970928428b8de4806d3062e3d552db3720067", func := "loop.example/lib-colourvalues/laws.FnInkNear", spec := "fnInkNear", apart := false, narrowed := true }
def FnInkNearUptoSaid : Prop := fnInkNearUptoRow.holds Try.pinned (OpenSpec.upto fnInkNearSpec)

/-- 'laws.FnYCbCrAndBack', WHERE WHAT IT READS IS OF BULK AT MOST 1048576: true; the input reads as it did. -/
def fnYCbCrAndBackUptoRow : OpenClaim := { program := "ytlibnclkhhljbaa", sum := "4137eee52d310d55ccfef1237f6970928428b8de4806d3062e3d552db3720067", func := "loop.example/lib-colourvalues/laws.FnYCbCrAndBack", spec := "fnYCbCrAndBack", apart := false, narrowed := true }
def FnYCbCrAndBackUptoSaid : Prop := fnYCbCrAndBackUptoRow.holds Try.pinned (OpenSpec.upto fnYCbCrAndBackSpec)

/-- 'laws.FnInkToGrey', WHERE WHAT IT READS IS OF BULK AT MOST 1048576: true; the input reads as it did. -/
def fnInkToGreyUptoRow : OpenClaim := { program := "ytlibnclkhhljbaa", sum := "4137eee52d310d55ccfef1237f6970928428b8de4806d3062e3d552db3720067", func := "loop.example/lib-colourvalues/laws.FnInkToGrey", spec := "fnInkToGrey", apart := false, narrowed := true }
def FnInkToGreyUptoSaid : Prop := fnInkToGreyUptoRow.holds Try.pinned (OpenSpec.upto fnInkToGreySpec)

/-- 'laws.FnExactCMYKValue', WHERE WHAT IT READS IS OF BULK AT MOST 1048576: true; the input reads as it did. -/
def fnExactCMYKValueUptoRow : OpenClaim := { program := "ytlibnclkhhljbaa", sum := "4137eee52d310d55ccfef1237f6970928428b8de4806d3062e3d552db3720067", func := "loop.example/lib-colourvalues/laws.FnExactCMYKValue", spec := "fnExactCMYKValue", apart := false, narrowed := true }
def FnExactCMYKValueUptoSaid : Prop := fnExactCMYKValueUptoRow.holds Try.pinned (OpenSpec.upto fnExactCMYKValueSpec)

/-- 'laws.FnInkOpaque', WHERE WHAT IT READS IS OF BULK AT MOST 1048576: true; the input reads as it did. -/
def fnInkOpaqueUptoRow : OpenClaim := { program := "ytlibnclkhhljbaa", sum := "4137eee52d310d55ccfef1237f6970928428b8de4806d3062e3d552db3720067", func := "loop.example/lib-colourvalues/laws.FnInkOpaque", spec := "fnInkOpaque", apart := false, narrowed := true }
def FnInkOpaqueUptoSaid : Prop := fnInkOpaqueUptoRow.holds Try.pinned (OpenSpec.upto fnInkOpaqueSpec)

/-- 'laws.FnExactRGBAValue', WHERE WHAT IT READS IS OF BULK AT MOST 1048576: true; the input reads as it did. -/
def fnExactRGBAValueUptoRow : OpenClaim := { program := "ytlibnclkhhljbaa", sum := "4137eee52d310d55ccfef1237f6970928428b8de4806d3062e3d552db3720067", func := "loop.example/lib-colourvalues/laws.FnExactRGBAValue", spec := "fnExactRGBAValue", apart := false, narrowed := true }
def FnExactRGBAValueUptoSaid : Prop := fnExactRGBAValueUptoRow.holds Try.pinned (OpenSpec.upto fnExactRGBAValueSpec)

end Rows
end Go.Proofs.Ytlibnclkhhljbaa
