/-
  No cell of these rows narrows 'for every input' (looked for: loops, veiled, ifaces, maps, wideKeys, modest, calm, conditions, laid).
  DERIVED. THE GIVEN ROWS OF THIS SEAT. 8 by the template 'for every input the law returns true; each argument reads behind the call as it read before'; 0 by the template 'total and deterministic' (their statements: Qxb6002688aTotals.lean).
  GIVEN WITH THE SEED: the statements are not yours to turn. If you find one false, say at which input.
  Laid BY PROGRAM, IN A SANDBOX (cutbox-rows.mjs): the forced cells as the released guide's own fill.sh prints them over the translation a37facee9b0b09dc… (all of the seat's roots in one cut). By AI agents, Wed Nov 11 2026. No macro, syntax, notation, axiom, sorry.
-/
import Derived.Test.Qxb6002688aChecked
import GoSem.Claim
import GoSem.ClaimJoined
import GoSem.ClaimMapViews
import Derived.JoinedTies
import Derived.KernelRfl
namespace Go.Proofs.Qxb6002688a
/- THE CELL 'sum', in the pinned program and in every row, IS THE sha256 OF THE DUMP (.gsa) THAT Qxb6002688aProg.lean LOADS. Nothing in Lean hashes anything: it is a label: what it is worth is what the hold of that sum in a sandbox is worth. -/
noncomputable def Try.pinned : Pinned := { name := "qxb6002688a", sum := "a37facee9b0b09dc1a433226ed85c024ffff737f76eb62ee3909b1ff8458c897", checked := Try.checked }
namespace Rows
def none {H : Type} : Left H := { results := [], args := [] }

/-- 'zzlaws_root_b1.FnBoundBetweenIsShortestSeparator': WHATEVER THE INPUT: true; the input reads as it did. -/
def fnBoundBetweenIsShortestSeparatorSpec : ChangeSpec := { name := "fnBoundBetweenIsShortestSeparator", fn := fun _ => fun
  | [d1, d2, d3, d4] => { results := [.lit (.bool true)], args := [d1, d2, d3, d4] }
  | _ => none }
def fnBoundBetweenIsShortestSeparatorRow : OpenClaim := { program := "qxb6002688a", sum := "a37facee9b0b09dc1a433226ed85c024ffff737f76eb62ee3909b1ff8458c897", func := "example.com/rangesieve/rangesieve/zzlaws_root_b1.FnBoundBetweenIsShortestSeparator", spec := "fnBoundBetweenIsShortestSeparator", apart := false }
def FnBoundBetweenIsShortestSeparatorSaid : Prop := fnBoundBetweenIsShortestSeparatorRow.holds Try.pinned (OpenSpec.ofChange fnBoundBetweenIsShortestSeparatorSpec)

/-- ITS FALSE NEIGHBOUR: 'it returns false'. Refute it at one input. -/
def fnBoundBetweenIsShortestSeparatorWrong : ChangeSpec := { name := "fnBoundBetweenIsShortestSeparator", fn := fun _ => fun
  | [d1, d2, d3, d4] => { results := [.lit (.bool false)], args := [d1, d2, d3, d4] }
  | _ => none }
def FnBoundBetweenIsShortestSeparatorWrongFalsely : Prop := fnBoundBetweenIsShortestSeparatorRow.holds Try.pinned (OpenSpec.ofChange fnBoundBetweenIsShortestSeparatorWrong)

/-- 'zzlaws_root_b1.FnBoundBetweenSeparates': WHATEVER THE INPUT: true; the input reads as it did. -/
def fnBoundBetweenSeparatesSpec : ChangeSpec := { name := "fnBoundBetweenSeparates", fn := fun _ => fun
  | [d1, d2, d3, d4] => { results := [.lit (.bool true)], args := [d1, d2, d3, d4] }
  | _ => none }
def fnBoundBetweenSeparatesRow : OpenClaim := { program := "qxb6002688a", sum := "a37facee9b0b09dc1a433226ed85c024ffff737f76eb62ee3909b1ff8458c897", func := "example.com/rangesieve/rangesieve/zzlaws_root_b1.FnBoundBetweenSeparates", spec := "fnBoundBetweenSeparates", apart := false }
def FnBoundBetweenSeparatesSaid : Prop := fnBoundBetweenSeparatesRow.holds Try.pinned (OpenSpec.ofChange fnBoundBetweenSeparatesSpec)

/-- ITS FALSE NEIGHBOUR: 'it returns false'. Refute it at one input. -/
def fnBoundBetweenSeparatesWrong : ChangeSpec := { name := "fnBoundBetweenSeparates", fn := fun _ => fun
  | [d1, d2, d3, d4] => { results := [.lit (.bool false)], args := [d1, d2, d3, d4] }
  | _ => none }
def FnBoundBetweenSeparatesWrongFalsely : Prop := fnBoundBetweenSeparatesRow.holds Try.pinned (OpenSpec.ofChange fnBoundBetweenSeparatesWrong)

/-- 'zzlaws_root_b1.FnBoundBetweenStableUnderItsOwnBound': WHATEVER THE INPUT: true; the input reads as it did. -/
def fnBoundBetweenStableUnderItsOwnBoundSpec : ChangeSpec := { name := "fnBoundBetweenStableUnderItsOwnBound", fn := fun _ => fun
  | [d1, d2, d3, d4] => { results := [.lit (.bool true)], args := [d1, d2, d3, d4] }
  | _ => none }
def fnBoundBetweenStableUnderItsOwnBoundRow : OpenClaim := { program := "qxb6002688a", sum := "a37facee9b0b09dc1a433226ed85c024ffff737f76eb62ee3909b1ff8458c897", func := "example.com/rangesieve/rangesieve/zzlaws_root_b1.FnBoundBetweenStableUnderItsOwnBound", spec := "fnBoundBetweenStableUnderItsOwnBound", apart := false }
def FnBoundBetweenStableUnderItsOwnBoundSaid : Prop := fnBoundBetweenStableUnderItsOwnBoundRow.holds Try.pinned (OpenSpec.ofChange fnBoundBetweenStableUnderItsOwnBoundSpec)

/-- ITS FALSE NEIGHBOUR: 'it returns false'. Refute it at one input. -/
def fnBoundBetweenStableUnderItsOwnBoundWrong : ChangeSpec := { name := "fnBoundBetweenStableUnderItsOwnBound", fn := fun _ => fun
  | [d1, d2, d3, d4] => { results := [.lit (.bool false)], args := [d1, d2, d3, d4] }
  | _ => none }
def FnBoundBetweenStableUnderItsOwnBoundWrongFalsely : Prop := fnBoundBetweenStableUnderItsOwnBoundRow.holds Try.pinned (OpenSpec.ofChange fnBoundBetweenStableUnderItsOwnBoundWrong)

/-- 'zzlaws_root_b1.FnNewMessageReaderSkipsVersionByte': WHATEVER THE INPUT: true; the input reads as it did. -/
def fnNewMessageReaderSkipsVersionByteSpec : ChangeSpec := { name := "fnNewMessageReaderSkipsVersionByte", fn := fun _ => fun
  | [d1, d2] => { results := [.lit (.bool true)], args := [d1, d2] }
  | _ => none }
def fnNewMessageReaderSkipsVersionByteRow : OpenClaim := { program := "qxb6002688a", sum := "a37facee9b0b09dc1a433226ed85c024ffff737f76eb62ee3909b1ff8458c897", func := "example.com/rangesieve/rangesieve/zzlaws_root_b1.FnNewMessageReaderSkipsVersionByte", spec := "fnNewMessageReaderSkipsVersionByte", apart := false }
def FnNewMessageReaderSkipsVersionByteSaid : Prop := fnNewMessageReaderSkipsVersionByteRow.holds Try.pinned (OpenSpec.ofChange fnNewMessageReaderSkipsVersionByteSpec)

/-- ITS FALSE NEIGHBOUR: 'it returns false'. Refute it at one input. -/
def fnNewMessageReaderSkipsVersionByteWrong : ChangeSpec := { name := "fnNewMessageReaderSkipsVersionByte", fn := fun _ => fun
  | [d1, d2] => { results := [.lit (.bool false)], args := [d1, d2] }
  | _ => none }
def FnNewMessageReaderSkipsVersionByteWrongFalsely : Prop := fnNewMessageReaderSkipsVersionByteRow.holds Try.pinned (OpenSpec.ofChange fnNewMessageReaderSkipsVersionByteWrong)

/-- 'zzlaws_root_b1.FnNewMessageReaderIgnoresPiecing': WHATEVER THE INPUT: true; the input reads as it did. -/
def fnNewMessageReaderIgnoresPiecingSpec : ChangeSpec := { name := "fnNewMessageReaderIgnoresPiecing", fn := fun _ => fun
  | [d1, d2] => { results := [.lit (.bool true)], args := [d1, d2] }
  | _ => none }
def fnNewMessageReaderIgnoresPiecingRow : OpenClaim := { program := "qxb6002688a", sum := "a37facee9b0b09dc1a433226ed85c024ffff737f76eb62ee3909b1ff8458c897", func := "example.com/rangesieve/rangesieve/zzlaws_root_b1.FnNewMessageReaderIgnoresPiecing", spec := "fnNewMessageReaderIgnoresPiecing", apart := false }
def FnNewMessageReaderIgnoresPiecingSaid : Prop := fnNewMessageReaderIgnoresPiecingRow.holds Try.pinned (OpenSpec.ofChange fnNewMessageReaderIgnoresPiecingSpec)

/-- ITS FALSE NEIGHBOUR: 'it returns false'. Refute it at one input. -/
def fnNewMessageReaderIgnoresPiecingWrong : ChangeSpec := { name := "fnNewMessageReaderIgnoresPiecing", fn := fun _ => fun
  | [d1, d2] => { results := [.lit (.bool false)], args := [d1, d2] }
  | _ => none }
def FnNewMessageReaderIgnoresPiecingWrongFalsely : Prop := fnNewMessageReaderIgnoresPiecingRow.holds Try.pinned (OpenSpec.ofChange fnNewMessageReaderIgnoresPiecingWrong)

/-- 'zzlaws_root_b1.FnSkipDropsExactlyN': WHATEVER THE INPUT: true; the input reads as it did. -/
def fnSkipDropsExactlyNSpec : ChangeSpec := { name := "fnSkipDropsExactlyN", fn := fun _ => fun
  | [d1, d2] => { results := [.lit (.bool true)], args := [d1, d2] }
  | _ => none }
def fnSkipDropsExactlyNRow : OpenClaim := { program := "qxb6002688a", sum := "a37facee9b0b09dc1a433226ed85c024ffff737f76eb62ee3909b1ff8458c897", func := "example.com/rangesieve/rangesieve/zzlaws_root_b1.FnSkipDropsExactlyN", spec := "fnSkipDropsExactlyN", apart := false }
def FnSkipDropsExactlyNSaid : Prop := fnSkipDropsExactlyNRow.holds Try.pinned (OpenSpec.ofChange fnSkipDropsExactlyNSpec)

/-- ITS FALSE NEIGHBOUR: 'it returns false'. Refute it at one input. -/
def fnSkipDropsExactlyNWrong : ChangeSpec := { name := "fnSkipDropsExactlyN", fn := fun _ => fun
  | [d1, d2] => { results := [.lit (.bool false)], args := [d1, d2] }
  | _ => none }
def FnSkipDropsExactlyNWrongFalsely : Prop := fnSkipDropsExactlyNRow.holds Try.pinned (OpenSpec.ofChange fnSkipDropsExactlyNWrong)

/-- 'zzlaws_root_b1.FnSkipComposes': WHATEVER THE INPUT: true; the input reads as it did. -/
def fnSkipComposesSpec : ChangeSpec := { name := "fnSkipComposes", fn := fun _ => fun
  | [d1, d2, d3] => { results := [.lit (.bool true)], args := [d1, d2, d3] }
  | _ => none }
def fnSkipComposesRow : OpenClaim := { program := "qxb6002688a", sum := "a37facee9b0b09dc1a433226ed85c024ffff737f76eb62ee3909b1ff8458c897", func := "example.com/rangesieve/rangesieve/zzlaws_root_b1.FnSkipComposes", spec := "fnSkipComposes", apart := false }
def FnSkipComposesSaid : Prop := fnSkipComposesRow.holds Try.pinned (OpenSpec.ofChange fnSkipComposesSpec)

/-- ITS FALSE NEIGHBOUR: 'it returns false'. Refute it at one input. -/
def fnSkipComposesWrong : ChangeSpec := { name := "fnSkipComposes", fn := fun _ => fun
  | [d1, d2, d3] => { results := [.lit (.bool false)], args := [d1, d2, d3] }
  | _ => none }
def FnSkipComposesWrongFalsely : Prop := fnSkipComposesRow.holds Try.pinned (OpenSpec.ofChange fnSkipComposesWrong)

/-- 'zzlaws_root_b1.FnSkipScriptKeepsInvariant': WHATEVER THE INPUT: true; the input reads as it did. -/
def fnSkipScriptKeepsInvariantSpec : ChangeSpec := { name := "fnSkipScriptKeepsInvariant", fn := fun _ => fun
  | [d1, d2] => { results := [.lit (.bool true)], args := [d1, d2] }
  | _ => none }
def fnSkipScriptKeepsInvariantRow : OpenClaim := { program := "qxb6002688a", sum := "a37facee9b0b09dc1a433226ed85c024ffff737f76eb62ee3909b1ff8458c897", func := "example.com/rangesieve/rangesieve/zzlaws_root_b1.FnSkipScriptKeepsInvariant", spec := "fnSkipScriptKeepsInvariant", apart := false }
def FnSkipScriptKeepsInvariantSaid : Prop := fnSkipScriptKeepsInvariantRow.holds Try.pinned (OpenSpec.ofChange fnSkipScriptKeepsInvariantSpec)

/-- ITS FALSE NEIGHBOUR: 'it returns false'. Refute it at one input. -/
def fnSkipScriptKeepsInvariantWrong : ChangeSpec := { name := "fnSkipScriptKeepsInvariant", fn := fun _ => fun
  | [d1, d2] => { results := [.lit (.bool false)], args := [d1, d2] }
  | _ => none }
def FnSkipScriptKeepsInvariantWrongFalsely : Prop := fnSkipScriptKeepsInvariantRow.holds Try.pinned (OpenSpec.ofChange fnSkipScriptKeepsInvariantWrong)

end Rows
end Go.Proofs.Qxb6002688a
