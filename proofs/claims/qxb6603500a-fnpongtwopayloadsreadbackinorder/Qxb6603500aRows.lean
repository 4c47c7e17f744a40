/-
  No cell of these rows narrows 'for every input' (looked for: loops, veiled, ifaces, maps, wideKeys, modest, calm, conditions, laid).
  DERIVED. THE GIVEN ROWS OF THIS SEAT. 4 by the template 'for every input the law returns true; each argument reads behind the call as it read before'; 0 by the template 'total and deterministic' (their statements: Qxb6603500aTotals.lean).
  GIVEN WITH THE SEED: the statements are not yours to turn. If you find one false, say at which input.
  Laid BY PROGRAM, IN A SANDBOX (cutbox-rows.mjs): the forced cells as the released guide's own fill.sh prints them over the translation 6ce242c933fbea4d… (all of the seat's roots in one cut). By AI agents, Wed Nov 11 2026. No macro, syntax, notation, axiom, sorry.
-/
import Derived.Test.Qxb6603500aChecked
import GoSem.Claim
import GoSem.ClaimJoined
import GoSem.ClaimMapViews
import Derived.JoinedTies
import Derived.KernelRfl
namespace Go.Proofs.Qxb6603500a
/- THE CELL 'sum', in the pinned program and in every row, IS THE sha256 OF THE DUMP (.gsa) THAT Qxb6603500aProg.lean LOADS. Nothing in Lean hashes anything: it is a label: what it is worth is what the hold of that sum in a sandbox is worth. -/
noncomputable def Try.pinned : Pinned := { name := "qxb6603500a", sum := "6ce242c933fbea4dfe896ce907d61b5d1615da51aabc71ba90c82bd45d8789f0", checked := Try.checked }
namespace Rows
def none {H : Type} : Left H := { results := [], args := [] }

/-- 'zzlaws_root_b1.FnDecoderLeftMatchesSlicedPayload': WHATEVER THE INPUT: true; the input reads as it did. -/
def fnDecoderLeftMatchesSlicedPayloadSpec : ChangeSpec := { name := "fnDecoderLeftMatchesSlicedPayload", fn := fun _ => fun
  | [d1, d2] => { results := [.lit (.bool true)], args := [d1, d2] }
  | _ => none }
def fnDecoderLeftMatchesSlicedPayloadRow : OpenClaim := { program := "qxb6603500a", sum := "6ce242c933fbea4dfe896ce907d61b5d1615da51aabc71ba90c82bd45d8789f0", func := "example.com/varwire/varwire/zzlaws_root_b1.FnDecoderLeftMatchesSlicedPayload", spec := "fnDecoderLeftMatchesSlicedPayload", apart := false }
def FnDecoderLeftMatchesSlicedPayloadSaid : Prop := fnDecoderLeftMatchesSlicedPayloadRow.holds Try.pinned (OpenSpec.ofChange fnDecoderLeftMatchesSlicedPayloadSpec)

/-- ITS FALSE NEIGHBOUR: 'it returns false'. Refute it at one input. -/
def fnDecoderLeftMatchesSlicedPayloadWrong : ChangeSpec := { name := "fnDecoderLeftMatchesSlicedPayload", fn := fun _ => fun
  | [d1, d2] => { results := [.lit (.bool false)], args := [d1, d2] }
  | _ => none }
def FnDecoderLeftMatchesSlicedPayloadWrongFalsely : Prop := fnDecoderLeftMatchesSlicedPayloadRow.holds Try.pinned (OpenSpec.ofChange fnDecoderLeftMatchesSlicedPayloadWrong)

/-- 'zzlaws_root_b1.FnTxBaseSizeIsBaseSerializationLength': WHATEVER THE INPUT: true; the input reads as it did. -/
def fnTxBaseSizeIsBaseSerializationLengthSpec : ChangeSpec := { name := "fnTxBaseSizeIsBaseSerializationLength", fn := fun _ => fun
  | [d1, d2, d3, d4] => { results := [.lit (.bool true)], args := [d1, d2, d3, d4] }
  | _ => none }
def fnTxBaseSizeIsBaseSerializationLengthRow : OpenClaim := { program := "qxb6603500a", sum := "6ce242c933fbea4dfe896ce907d61b5d1615da51aabc71ba90c82bd45d8789f0", func := "example.com/varwire/varwire/zzlaws_root_b1.FnTxBaseSizeIsBaseSerializationLength", spec := "fnTxBaseSizeIsBaseSerializationLength", apart := false }
def FnTxBaseSizeIsBaseSerializationLengthSaid : Prop := fnTxBaseSizeIsBaseSerializationLengthRow.holds Try.pinned (OpenSpec.ofChange fnTxBaseSizeIsBaseSerializationLengthSpec)

/-- ITS FALSE NEIGHBOUR: 'it returns false'. Refute it at one input. -/
def fnTxBaseSizeIsBaseSerializationLengthWrong : ChangeSpec := { name := "fnTxBaseSizeIsBaseSerializationLength", fn := fun _ => fun
  | [d1, d2, d3, d4] => { results := [.lit (.bool false)], args := [d1, d2, d3, d4] }
  | _ => none }
def FnTxBaseSizeIsBaseSerializationLengthWrongFalsely : Prop := fnTxBaseSizeIsBaseSerializationLengthRow.holds Try.pinned (OpenSpec.ofChange fnTxBaseSizeIsBaseSerializationLengthWrong)

/-- 'zzlaws_root_b1.FnTxBaseSizeSplitsIntoParts': WHATEVER THE INPUT: true; the input reads as it did. -/
def fnTxBaseSizeSplitsIntoPartsSpec : ChangeSpec := { name := "fnTxBaseSizeSplitsIntoParts", fn := fun _ => fun
  | [d1, d2, d3, d4] => { results := [.lit (.bool true)], args := [d1, d2, d3, d4] }
  | _ => none }
def fnTxBaseSizeSplitsIntoPartsRow : OpenClaim := { program := "qxb6603500a", sum := "6ce242c933fbea4dfe896ce907d61b5d1615da51aabc71ba90c82bd45d8789f0", func := "example.com/varwire/varwire/zzlaws_root_b1.FnTxBaseSizeSplitsIntoParts", spec := "fnTxBaseSizeSplitsIntoParts", apart := false }
def FnTxBaseSizeSplitsIntoPartsSaid : Prop := fnTxBaseSizeSplitsIntoPartsRow.holds Try.pinned (OpenSpec.ofChange fnTxBaseSizeSplitsIntoPartsSpec)

/-- ITS FALSE NEIGHBOUR: 'it returns false'. Refute it at one input. -/
def fnTxBaseSizeSplitsIntoPartsWrong : ChangeSpec := { name := "fnTxBaseSizeSplitsIntoParts", fn := fun _ => fun
  | [d1, d2, d3, d4] => { results := [.lit (.bool false)], args := [d1, d2, d3, d4] }
  | _ => none }
def FnTxBaseSizeSplitsIntoPartsWrongFalsely : Prop := fnTxBaseSizeSplitsIntoPartsRow.holds Try.pinned (OpenSpec.ofChange fnTxBaseSizeSplitsIntoPartsWrong)

/-- 'zzlaws_root_b1.FnPongTwoPayloadsReadBackInOrder': WHATEVER THE INPUT: true; the input reads as it did. -/
def fnPongTwoPayloadsReadBackInOrderSpec : ChangeSpec := { name := "fnPongTwoPayloadsReadBackInOrder", fn := fun _ => fun
  | [d1, d2, d3] => { results := [.lit (.bool true)], args := [d1, d2, d3] }
  | _ => none }
def fnPongTwoPayloadsReadBackInOrderRow : OpenClaim := { program := "qxb6603500a", sum := "6ce242c933fbea4dfe896ce907d61b5d1615da51aabc71ba90c82bd45d8789f0", func := "example.com/varwire/varwire/zzlaws_root_b1.FnPongTwoPayloadsReadBackInOrder", spec := "fnPongTwoPayloadsReadBackInOrder", named := ["encoding/binary.LittleEndian"], apart := false }
def FnPongTwoPayloadsReadBackInOrderSaid : Prop := fnPongTwoPayloadsReadBackInOrderRow.holds Try.pinned (OpenSpec.ofChange fnPongTwoPayloadsReadBackInOrderSpec)

/-- ITS FALSE NEIGHBOUR: 'it returns false'. Refute it at one input. -/
def fnPongTwoPayloadsReadBackInOrderWrong : ChangeSpec := { name := "fnPongTwoPayloadsReadBackInOrder", fn := fun _ => fun
  | [d1, d2, d3] => { results := [.lit (.bool false)], args := [d1, d2, d3] }
  | _ => none }
def FnPongTwoPayloadsReadBackInOrderWrongFalsely : Prop := fnPongTwoPayloadsReadBackInOrderRow.holds Try.pinned (OpenSpec.ofChange fnPongTwoPayloadsReadBackInOrderWrong)

end Rows
end Go.Proofs.Qxb6603500a
