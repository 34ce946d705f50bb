/-
  No cell of these rows narrows 'for every input' (looked for: loops, veiled, ifaces, maps, wideKeys, modest, calm, conditions, laid).
  DERIVED. THE GIVEN ROWS OF THIS SEAT. 12 by the template 'for every input the law returns true; each argument reads behind the call as it read before'; 0 by the template 'total and deterministic' (their statements: YtemcnhoecmhlaaaTotals.lean).
  GIVEN WITH THE SEED: the statements are not yours to turn. If you find one false, say at which input.
  Laid BY PROGRAM, IN A SANDBOX (cutbox-rows.mjs): the forced cells as the released guide's own fill.sh prints them over the translation 6e8e58dfe2323343… (all of the seat's roots in one cut). By AI agents, Wed Nov 11 2026. No macro, syntax, notation, axiom, sorry.
-/
import Derived.Test.YtemcnhoecmhlaaaChecked
import GoSem.Claim
import GoSem.ClaimJoined
import GoSem.ClaimMapViews
import Derived.JoinedTies
import Derived.KernelRfl
namespace Go.Proofs.Ytemcnhoecmhlaaa
/- THE CELL 'sum', in the pinned program and in every row, IS THE sha256 OF THE DUMP (.gsa) THAT YtemcnhoecmhlaaaProg.lean LOADS. Nothing in Lean hashes anything: it is a label: what it is worth is what the hold of that sum in a sandbox is worth. -/
noncomputable def Try.pinned : Pinned := { name := "ytemcnhoecmhlaaa", sum := "6e8e58dfe2323343a7eb9907c8d5243b3965f58daaed545ad8b086fbc37acc30", checked := Try.checked }
namespace Rows
def none {H : Type} : Left H := { results := [], args := [] }

/-- 'laws.FnLumaOpaque': WHATEVER THE INPUT: true; the input reads as it did. -/
def fnLumaOpaqueSpec : ChangeSpec := { name := "fnLumaOpaque", fn := fun _ => fun
  | [d] => { results := [.lit (.bool true)], args := [d] }
  | _ => none }
def fnLumaOpaqueRow : OpenClaim := { program := "ytemcnhoecmhlaaa", sum := "6e8e58dfe2323343a7eb9907c8d5243b3965f58daaed545ad8b086fbc37acc30", func := "loop.example/lib-colourvalues/laws.FnLumaOpaque", spec := "fnLumaOpaque", apart := false }
def FnLumaOpaqueSaid : Prop := fnLumaOpaqueRow.holds Try.pinned (OpenSpec.ofChange fnLumaOpaqueSpec)

/-- ITS FALSE NEIGHBOUR: 'it returns false'. Refute it at one input. -/
def fnLumaOpaqueWrong : ChangeSpec := { name := "fnLumaOpaque", fn := fun _ => fun
  | [d] => { results := [.lit (.bool false)], args := [d] }
  | _ => none }
def FnLumaOpaqueWrongFalsely : Prop := fnLumaOpaqueRow.holds Try.pinned (OpenSpec.ofChange fnLumaOpaqueWrong)

/-- 'laws.FnLumaValueNear': WHATEVER THE INPUT: true; the input reads as it did. -/
def fnLumaValueNearSpec : ChangeSpec := { name := "fnLumaValueNear", fn := fun _ => fun
  | [d] => { results := [.lit (.bool true)], args := [d] }
  | _ => none }
def fnLumaValueNearRow : OpenClaim := { program := "ytemcnhoecmhlaaa", sum := "6e8e58dfe2323343a7eb9907c8d5243b3965f58daaed545ad8b086fbc37acc30", func := "loop.example/lib-colourvalues/laws.FnLumaValueNear", spec := "fnLumaValueNear", apart := false }
def FnLumaValueNearSaid : Prop := fnLumaValueNearRow.holds Try.pinned (OpenSpec.ofChange fnLumaValueNearSpec)

/-- ITS FALSE NEIGHBOUR: 'it returns false'. Refute it at one input. -/
def fnLumaValueNearWrong : ChangeSpec := { name := "fnLumaValueNear", fn := fun _ => fun
  | [d] => { results := [.lit (.bool false)], args := [d] }
  | _ => none }
def FnLumaValueNearWrongFalsely : Prop := fnLumaValueNearRow.holds Try.pinned (OpenSpec.ofChange fnLumaValueNearWrong)

/-- 'laws.FnInkBlackAlike': WHATEVER THE INPUT: true; the input reads as it did. -/
def fnInkBlackAlikeSpec : ChangeSpec := { name := "fnInkBlackAlike", fn := fun _ => fun
  | [d] => { results := [.lit (.bool true)], args := [d] }
  | _ => none }
def fnInkBlackAlikeRow : OpenClaim := { program := "ytemcnhoecmhlaaa", sum := "6e8e58dfe2323343a7eb9907c8d5243b3965f58daaed545ad8b086fbc37acc30", func := "loop.example/lib-colourvalues/laws.FnInkBlackAlike", spec := "fnInkBlackAlike", apart := false }
def FnInkBlackAlikeSaid : Prop := fnInkBlackAlikeRow.holds Try.pinned (OpenSpec.ofChange fnInkBlackAlikeSpec)

/-- ITS FALSE NEIGHBOUR: 'it returns false'. Refute it at one input. -/
def fnInkBlackAlikeWrong : ChangeSpec := { name := "fnInkBlackAlike", fn := fun _ => fun
  | [d] => { results := [.lit (.bool false)], args := [d] }
  | _ => none }
def FnInkBlackAlikeWrongFalsely : Prop := fnInkBlackAlikeRow.holds Try.pinned (OpenSpec.ofChange fnInkBlackAlikeWrong)

/-- 'laws.FnMoreInk': WHATEVER THE INPUT: true; the input reads as it did. -/
def fnMoreInkSpec : ChangeSpec := { name := "fnMoreInk", fn := fun _ => fun
  | [d] => { results := [.lit (.bool true)], args := [d] }
  | _ => none }
def fnMoreInkRow : OpenClaim := { program := "ytemcnhoecmhlaaa", sum := "6e8e58dfe2323343a7eb9907c8d5243b3965f58daaed545ad8b086fbc37acc30", func := "loop.example/lib-colourvalues/laws.FnMoreInk", spec := "fnMoreInk", apart := false }
def FnMoreInkSaid : Prop := fnMoreInkRow.holds Try.pinned (OpenSpec.ofChange fnMoreInkSpec)

/-- ITS FALSE NEIGHBOUR: 'it returns false'. Refute it at one input. -/
def fnMoreInkWrong : ChangeSpec := { name := "fnMoreInk", fn := fun _ => fun
  | [d] => { results := [.lit (.bool false)], args := [d] }
  | _ => none }
def FnMoreInkWrongFalsely : Prop := fnMoreInkRow.holds Try.pinned (OpenSpec.ofChange fnMoreInkWrong)

/-- 'laws.FnClear': WHATEVER THE INPUT: true; the input reads as it did. -/
def fnClearSpec : ChangeSpec := { name := "fnClear", fn := fun _ => fun
  | [d] => { results := [.lit (.bool true)], args := [d] }
  | _ => none }
def fnClearRow : OpenClaim := { program := "ytemcnhoecmhlaaa", sum := "6e8e58dfe2323343a7eb9907c8d5243b3965f58daaed545ad8b086fbc37acc30", func := "loop.example/lib-colourvalues/laws.FnClear", spec := "fnClear", apart := false }
def FnClearSaid : Prop := fnClearRow.holds Try.pinned (OpenSpec.ofChange fnClearSpec)

/-- ITS FALSE NEIGHBOUR: 'it returns false'. Refute it at one input. -/
def fnClearWrong : ChangeSpec := { name := "fnClear", fn := fun _ => fun
  | [d] => { results := [.lit (.bool false)], args := [d] }
  | _ => none }
def FnClearWrongFalsely : Prop := fnClearRow.holds Try.pinned (OpenSpec.ofChange fnClearWrong)

/-- 'laws.FnScaledAlike': WHATEVER THE INPUT: true; the input reads as it did. -/
def fnScaledAlikeSpec : ChangeSpec := { name := "fnScaledAlike", fn := fun _ => fun
  | [d] => { results := [.lit (.bool true)], args := [d] }
  | _ => none }
def fnScaledAlikeRow : OpenClaim := { program := "ytemcnhoecmhlaaa", sum := "6e8e58dfe2323343a7eb9907c8d5243b3965f58daaed545ad8b086fbc37acc30", func := "loop.example/lib-colourvalues/laws.FnScaledAlike", spec := "fnScaledAlike", apart := false }
def FnScaledAlikeSaid : Prop := fnScaledAlikeRow.holds Try.pinned (OpenSpec.ofChange fnScaledAlikeSpec)

/-- ITS FALSE NEIGHBOUR: 'it returns false'. Refute it at one input. -/
def fnScaledAlikeWrong : ChangeSpec := { name := "fnScaledAlike", fn := fun _ => fun
  | [d] => { results := [.lit (.bool false)], args := [d] }
  | _ => none }
def FnScaledAlikeWrongFalsely : Prop := fnScaledAlikeRow.holds Try.pinned (OpenSpec.ofChange fnScaledAlikeWrong)

/-- 'laws.FnScaledBelow': WHATEVER THE INPUT: true; the input reads as it did. -/
def fnScaledBelowSpec : ChangeSpec := { name := "fnScaledBelow", fn := fun _ => fun
  | [d] => { results := [.lit (.bool true)], args := [d] }
  | _ => none }
def fnScaledBelowRow : OpenClaim := { program := "ytemcnhoecmhlaaa", sum := "6e8e58dfe2323343a7eb9907c8d5243b3965f58daaed545ad8b086fbc37acc30", func := "loop.example/lib-colourvalues/laws.FnScaledBelow", spec := "fnScaledBelow", apart := false }
def FnScaledBelowSaid : Prop := fnScaledBelowRow.holds Try.pinned (OpenSpec.ofChange fnScaledBelowSpec)

/-- ITS FALSE NEIGHBOUR: 'it returns false'. Refute it at one input. -/
def fnScaledBelowWrong : ChangeSpec := { name := "fnScaledBelow", fn := fun _ => fun
  | [d] => { results := [.lit (.bool false)], args := [d] }
  | _ => none }
def FnScaledBelowWrongFalsely : Prop := fnScaledBelowRow.holds Try.pinned (OpenSpec.ofChange fnScaledBelowWrong)

/-- 'laws.FnScaledDown': WHATEVER THE INPUT: true; the input reads as it did. -/
def fnScaledDownSpec : ChangeSpec := { name := "fnScaledDown", fn := fun _ => fun
  | [d] => { results := [.lit (.bool true)], args := [d] }
  | _ => none }
def fnScaledDownRow : OpenClaim := { program := "ytemcnhoecmhlaaa", sum := "6e8e58dfe2323343a7eb9907c8d5243b3965f58daaed545ad8b086fbc37acc30", func := "loop.example/lib-colourvalues/laws.FnScaledDown", spec := "fnScaledDown", apart := false }
def FnScaledDownSaid : Prop := fnScaledDownRow.holds Try.pinned (OpenSpec.ofChange fnScaledDownSpec)

/-- ITS FALSE NEIGHBOUR: 'it returns false'. Refute it at one input. -/
def fnScaledDownWrong : ChangeSpec := { name := "fnScaledDown", fn := fun _ => fun
  | [d] => { results := [.lit (.bool false)], args := [d] }
  | _ => none }
def FnScaledDownWrongFalsely : Prop := fnScaledDownRow.holds Try.pinned (OpenSpec.ofChange fnScaledDownWrong)

/-- 'laws.FnScaledEither': WHATEVER THE INPUT: true; the input reads as it did. -/
def fnScaledEitherSpec : ChangeSpec := { name := "fnScaledEither", fn := fun _ => fun
  | [d] => { results := [.lit (.bool true)], args := [d] }
  | _ => none }
def fnScaledEitherRow : OpenClaim := { program := "ytemcnhoecmhlaaa", sum := "6e8e58dfe2323343a7eb9907c8d5243b3965f58daaed545ad8b086fbc37acc30", func := "loop.example/lib-colourvalues/laws.FnScaledEither", spec := "fnScaledEither", apart := false }
def FnScaledEitherSaid : Prop := fnScaledEitherRow.holds Try.pinned (OpenSpec.ofChange fnScaledEitherSpec)

/-- ITS FALSE NEIGHBOUR: 'it returns false'. Refute it at one input. -/
def fnScaledEitherWrong : ChangeSpec := { name := "fnScaledEither", fn := fun _ => fun
  | [d] => { results := [.lit (.bool false)], args := [d] }
  | _ => none }
def FnScaledEitherWrongFalsely : Prop := fnScaledEitherRow.holds Try.pinned (OpenSpec.ofChange fnScaledEitherWrong)

/-- 'laws.FnScaledRoad': WHATEVER THE INPUT: true; the input reads as it did. -/
def fnScaledRoadSpec : ChangeSpec := { name := "fnScaledRoad", fn := fun _ => fun
  | [d] => { results := [.lit (.bool true)], args := [d] }
  | _ => none }
def fnScaledRoadRow : OpenClaim := { program := "ytemcnhoecmhlaaa", sum := "6e8e58dfe2323343a7eb9907c8d5243b3965f58daaed545ad8b086fbc37acc30", func := "loop.example/lib-colourvalues/laws.FnScaledRoad", spec := "fnScaledRoad", apart := false }
def FnScaledRoadSaid : Prop := fnScaledRoadRow.holds Try.pinned (OpenSpec.ofChange fnScaledRoadSpec)

/-- ITS FALSE NEIGHBOUR: 'it returns false'. Refute it at one input. -/
def fnScaledRoadWrong : ChangeSpec := { name := "fnScaledRoad", fn := fun _ => fun
  | [d] => { results := [.lit (.bool false)], args := [d] }
  | _ => none }
def FnScaledRoadWrongFalsely : Prop := fnScaledRoadRow.holds Try.pinned (OpenSpec.ofChange fnScaledRoadWrong)

/-- 'laws.FnInkExchange': WHATEVER THE INPUT: true; the input reads as it did. -/
def fnInkExchangeSpec : ChangeSpec := { name := "fnInkExchange", fn := fun _ => fun
  | [d] => { results := [.lit (.bool true)], args := [d] }
  | _ => none }
def fnInkExchangeRow : OpenClaim := { program := "ytemcnhoecmhlaaa", sum := "6e8e58dfe2323343a7eb9907c8d5243b3965f58daaed545ad8b086fbc37acc30", func := "loop.example/lib-colourvalues/laws.FnInkExchange", spec := "fnInkExchange", apart := false }
def FnInkExchangeSaid : Prop := fnInkExchangeRow.holds Try.pinned (OpenSpec.ofChange fnInkExchangeSpec)

/-- ITS FALSE NEIGHBOUR: 'it returns false'. Refute it at one input. -/
def fnInkExchangeWrong : ChangeSpec := { name := "fnInkExchange", fn := fun _ => fun
  | [d] => { results := [.lit (.bool false)], args := [d] }
  | _ => none }
def FnInkExchangeWrongFalsely : Prop := fnInkExchangeRow.holds Try.pinned (OpenSpec.ofChange fnInkExchangeWrong)

/-- 'laws.FnInkOrder': WHATEVER THE INPUT: true; the input reads as it did. -/
def fnInkOrderSpec : ChangeSpec := { name := "fnInkOrder", fn := fun _ => fun
  | [d] => { results := [.lit (.bool true)], args := [d] }
  | _ => none }
def fnInkOrderRow : OpenClaim := { program := "ytemcnhoecmhlaaa", sum := "6e8e58dfe2323343a7eb9907c8d5243b3965f58daaed545ad8b086fbc37acc30", func := "loop.example/lib-colourvalues/laws.FnInkOrder", spec := "fnInkOrder", apart := false }
def FnInkOrderSaid : Prop := fnInkOrderRow.holds Try.pinned (OpenSpec.ofChange fnInkOrderSpec)

/-- ITS FALSE NEIGHBOUR: 'it returns false'. Refute it at one input. -/
def fnInkOrderWrong : ChangeSpec := { name := "fnInkOrder", fn := fun _ => fun
  | [d] => { results := [.lit (.bool false)], args := [d] }
  | _ => none }
def FnInkOrderWrongFalsely : Prop := fnInkOrderRow.holds Try.pinned (OpenSpec.ofChange fnInkOrderWrong)

/- THE SECOND FORM. 'bulk': how many values and letters a reading holds, each counted each time it is reached (what is shared counts as often as it is met; a slice's spare places count too). A statement '..UptoSaid' is the law's where the arguments, and the package variables that the reading takes, are together of bulk at most 1048576: NARROWER than '..Said'. Prove '..Said' where nothing that the law and all that it calls make is longer than what came in: it says more and counts as full. Else prove '..UptoSaid'. A law counts once. -/
mutual
def uptoBulk {H : Type} : DataW H → Nat
  | .lit (.string bytes) => bytes.length + 1
  | .lit _ => 1
  | .nil => 1
  | .ptr d => uptoBulk d + 1
  | .slice elems spare => uptoBulkAll elems + uptoBulkAll spare + 1
  | .agg parts => uptoBulkAll parts + 1
  | .iface _ d => uptoBulk d + 1
  | .map entries => uptoBulkEntries entries + 1
  | .held _ => 1
def uptoBulkAll {H : Type} : List (DataW H) → Nat
  | [] => 0
  | d :: r => uptoBulk d + uptoBulkAll r
def uptoBulkEntries {H : Type} : List (Lit × DataW H) → Nat
  | [] => 0
  | x :: r => uptoBulkEntry x + uptoBulkEntries r
def uptoBulkEntry {H : Type} : Lit × DataW H → Nat
  | (.string bytes, d) => bytes.length + uptoBulk d + 1
  | (_, d) => uptoBulk d + 1
 end
def uptoSmall : (H : Type) → List (DataW H) → Bool := fun _ ds => decide (uptoBulkAll ds ≤ 1048576)
def OpenSpec.upto (s : _root_.Go.ChangeSpec) : _root_.Go.OpenSpec := { _root_.Go.OpenSpec.ofChange s with cond := some uptoSmall }

/-- 'laws.FnLumaOpaque', WHERE WHAT IT READS IS OF BULK AT MOST 1048576: true; the input reads as it did. -/
def fnLumaOpaqueUptoRow : OpenClaim := { program := "ytemcnhoecmhlaaa", sum := "6e8e58dfe2323343a7eb9907c8d5243b3965f58daaed545ad8b086fbc37acc30", func := "loop.example/lib-colourvalues/laws.FnLumaOpaque", spec := "fnLumaOpaque", apart := false, narrowed := true }
def FnLumaOpaqueUptoSaid : Prop := fnLumaOpaqueUptoRow.holds Try.pinned (OpenSpec.upto fnLumaOpaqueSpec)

/-- 'laws.FnLumaValueNear', WHERE WHAT IT READS IS OF BULK AT MOST 1048576: true; the input reads as it did. -/
def fnLumaValueNearUptoRow : OpenClaim := { program := "ytemcnhoecmhlaaa", sum := "6e8e58dfe2323343a7eb9907c8d5243b3965f58daaed545ad8b086fbc37acc30", func := "loop.example/lib-colourvalues/laws.FnLumaValueNear", spec := "fnLumaValueNear", apart := false, narrowed := true }
def FnLumaValueNearUptoSaid : Prop := fnLumaValueNearUptoRow.holds Try.pinned (OpenSpec.upto fnLumaValueNearSpec)

/-- 'laws.FnInkBlackAlike', WHERE WHAT IT READS IS OF BULK AT MOST 1048576: true; the input reads as it did. -/
def fnInkBlackAlikeUptoRow : OpenClaim := { program := "ytemcnhoecmhlaaa", sum := "6e8e58dfe2323343a7eb9907c8d5243b3965f58daaed545ad8b086fbc37acc30", func := "loop.example/lib-colourvalues/laws.FnInkBlackAlike", spec := "fnInkBlackAlike", apart := false, narrowed := true }
def FnInkBlackAlikeUptoSaid : Prop := fnInkBlackAlikeUptoRow.holds Try.pinned (OpenSpec.upto fnInkBlackAlikeSpec)

/-- 'laws.FnMoreInk', WHERE WHAT IT READS IS OF BULK AT MOST 1048576: true; the input reads as it did. -/
def fnMoreInkUptoRow : OpenClaim := { program := "ytemcnhoecmhlaaa", sum := "6e8e58dfe2323343a7eb9907c8d5243b3965f58daaed545ad8b086fbc37acc30", func := "loop.example/lib-colourvalues/laws.FnMoreInk", spec := "fnMoreInk", apart := false, narrowed := true }
def FnMoreInkUptoSaid : Prop := fnMoreInkUptoRow.holds Try.pinned (OpenSpec.upto fnMoreInkSpec)

/-- 'laws.FnClear', WHERE WHAT IT READS IS OF BULK AT MOST 1048576: true; the input reads as it did. -/
def fnClearUptoRow : OpenClaim := { program := "ytemcnhoecmhlaaa", sum := "6e8e58dfe2323343a7eb9907c8d5243b3965f58daaed545ad8b086fbc37acc30", func := "loop.example/lib-colourvalues/laws.FnClear", spec := "fnClear", apart := false, narrowed := true }
def FnClearUptoSaid : Prop := fnClearUptoRow.holds Try.pinned (OpenSpec.upto fnClearSpec)

/-- 'laws.FnScaledAlike', WHERE WHAT IT READS IS OF BULK AT MOST 1048576: true; the input reads as it did. -/
def fnScaledAlikeUptoRow : OpenClaim := { program := "ytemcnhoecmhlaaa", sum := "6e8e58dfe2323343a7eb9907c8d5243b3965f58daaed545ad8b086fbc37acc30", func := "loop.example/lib-colourvalues/laws.FnScaledAlike", spec := "fnScaledAlike", apart := false, narrowed := true }
def FnScaledAlikeUptoSaid : Prop := fnScaledAlikeUptoRow.holds Try.pinned (OpenSpec.upto fnScaledAlikeSpec)

/-- 'laws.FnScaledBelow', WHERE WHAT IT READS IS OF BULK AT MOST 1048576: true; the input reads as it did. -/
def fnScaledBelowUptoRow : OpenClaim := { program := "ytemcnhoecmhlaaa", sum := "6e8e58dfe2323343a7eb9907c8d5243b3965f58daaed545ad8b086fbc37acc30", func := "loop.example/lib-colourvalues/laws.FnScaledBelow", spec := "fnScaledBelow", apart := false, narrowed := true }
def FnScaledBelowUptoSaid : Prop := fnScaledBelowUptoRow.holds Try.pinned (OpenSpec.upto fnScaledBelowSpec)

/-- 'laws.FnScaledDown', WHERE WHAT IT READS IS OF BULK AT MOST 1048576: true; the input reads as it did. -/
def fnScaledDownUptoRow : OpenClaim := { program := "ytemcnhoecmhlaaa", sum := "6e8e58dfe2323343a7eb9907c8d5243b3965f58daaed545ad8b086fbc37acc30", func := "loop.example/lib-colourvalues/laws.FnScaledDown", spec := "fnScaledDown", apart := false, narrowed := true }
def FnScaledDownUptoSaid : Prop := fnScaledDownUptoRow.holds Try.pinned (OpenSpec.upto fnScaledDownSpec)

/-- 'laws.FnScaledEither', WHERE WHAT IT READS IS OF BULK AT MOST 1048576: true; the input reads as it did. -/
def fnScaledEitherUptoRow : OpenClaim := { program := "ytemcnhoecmhlaaa", sum := "6e8e58dfe2323343a7eb9907c8d5243b3965f58daaed545ad8b086fbc37acc30", func := "loop.example/lib-colourvalues/laws.FnScaledEither", spec := "fnScaledEither", apart := false, narrowed := true }
def FnScaledEitherUptoSaid : Prop := fnScaledEitherUptoRow.holds Try.pinned (OpenSpec.upto fnScaledEitherSpec)

/-- 'laws.FnScaledRoad', WHERE WHAT IT READS IS OF BULK AT MOST 1048576: true; the input reads as it did. -/
def fnScaledRoadUptoRow : OpenClaim := { program := "ytemcnhoecmhlaaa", sum := "6e8e58dfe2323343a7eb9907c8d5243b3965f58daaed545ad8b086fbc37acc30", func := "loop.example/lib-colourvalues/laws.FnScaledRoad", spec := "fnScaledRoad", apart := false, narrowed := true }
def FnScaledRoadUptoSaid : Prop := fnScaledRoadUptoRow.holds Try.pinned (OpenSpec.upto fnScaledRoadSpec)

/-- 'laws.FnInkExchange', WHERE WHAT IT READS IS OF BULK AT MOST 1048576: true; the input reads as it did. -/
def fnInkExchangeUptoRow : OpenClaim := { program := "ytemcnhoecmhlaaa", sum := "6e8e58dfe2323343a7eb9907c8d5243b3965f58daaed545ad8b086fbc37acc30", func := "loop.example/lib-colourvalues/laws.FnInkExchange", spec := "fnInkExchange", apart := false, narrowed := true }
def FnInkExchangeUptoSaid : Prop := fnInkExchangeUptoRow.holds Try.pinned (OpenSpec.upto fnInkExchangeSpec)

/-- 'laws.FnInkOrder', WHERE WHAT IT READS IS OF BULK AT MOST 1048576: true; the input reads as it did. -/
def fnInkOrderUptoRow : OpenClaim := { program := "ytemcnhoecmhlaaa", sum := "6e8e58dfe2323343a7eb9907c8d5243b3965f58daaed545ad8b086fbc37acc30", func := "loop.example/lib-colourvalues/laws.FnInkOrder", spec := "fnInkOrder", apart := false, narrowed := true }
def FnInkOrderUptoSaid : Prop := fnInkOrderUptoRow.holds Try.pinned (OpenSpec.upto fnInkOrderSpec)

end Rows
end Go.Proofs.Ytemcnhoecmhlaaa
