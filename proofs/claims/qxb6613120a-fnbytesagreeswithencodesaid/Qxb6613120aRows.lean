/-
  No cell of these rows narrows 'for every input' (looked for: loops, veiled, ifaces, maps, wideKeys, modest, calm, conditions, laid).
  DERIVED. THE GIVEN ROWS OF THIS SEAT. 5 by the template 'for every input the law returns true; each argument reads behind the call as it read before'; 0 by the template 'total and deterministic' (their statements: Qxb6613120aTotals.lean).
  GIVEN WITH THE SEED: the statements are not yours to turn. If you find one false, say at which input.
  Laid BY PROGRAM, IN A SANDBOX (cutbox-rows.mjs): the forced cells as the released guide's own fill.sh prints them over the translation 4bb421f84c716a6a… (all of the seat's roots in one cut). By AI agents, Wed Nov 11 2026. No macro, syntax, notation, axiom, sorry.
-/
import Derived.Test.Qxb6613120aChecked
import GoSem.Claim
import GoSem.ClaimJoined
import GoSem.ClaimMapViews
import Derived.JoinedTies
import Derived.KernelRfl
namespace Go.Proofs.Qxb6613120a
/- THE CELL 'sum', in the pinned program and in every row, IS THE sha256 OF THE DUMP (.gsa) THAT Qxb6613120aProg.lean LOADS. Nothing in Lean hashes anything: it is a label: what it is worth is what the hold of that sum in a sandbox is worth. -/
noncomputable def Try.pinned : Pinned := { name := "qxb6613120a", sum := "4bb421f84c716a6a81bddc9038f6e389113b546fbe12a58754cd9402b606dafc", checked := Try.checked }
namespace Rows
def none {H : Type} : Left H := { results := [], args := [] }

/-- 'zzlaws_wire_b1.FnRestFreshDecoderHandsOverAllOnce': WHATEVER THE INPUT: true; the input reads as it did. -/
def fnRestFreshDecoderHandsOverAllOnceSpec : ChangeSpec := { name := "fnRestFreshDecoderHandsOverAllOnce", fn := fun _ => fun
  | [d] => { results := [.lit (.bool true)], args := [d] }
  | _ => none }
def fnRestFreshDecoderHandsOverAllOnceRow : OpenClaim := { program := "qxb6613120a", sum := "4bb421f84c716a6a81bddc9038f6e389113b546fbe12a58754cd9402b606dafc", func := "example.com/quorumweave/quorumweave/zzlaws_wire_b1.FnRestFreshDecoderHandsOverAllOnce", spec := "fnRestFreshDecoderHandsOverAllOnce", apart := false }
def FnRestFreshDecoderHandsOverAllOnceSaid : Prop := fnRestFreshDecoderHandsOverAllOnceRow.holds Try.pinned (OpenSpec.ofChange fnRestFreshDecoderHandsOverAllOnceSpec)

/-- ITS FALSE NEIGHBOUR: 'it returns false'. Refute it at one input. -/
def fnRestFreshDecoderHandsOverAllOnceWrong : ChangeSpec := { name := "fnRestFreshDecoderHandsOverAllOnce", fn := fun _ => fun
  | [d] => { results := [.lit (.bool false)], args := [d] }
  | _ => none }
def FnRestFreshDecoderHandsOverAllOnceWrongFalsely : Prop := fnRestFreshDecoderHandsOverAllOnceRow.holds Try.pinned (OpenSpec.ofChange fnRestFreshDecoderHandsOverAllOnceWrong)

/-- 'zzlaws_wire_b1.FnEncodeIsIDThenFieldsAtAnyCut': WHATEVER THE INPUT: true; the input reads as it did. -/
def fnEncodeIsIDThenFieldsAtAnyCutSpec : ChangeSpec := { name := "fnEncodeIsIDThenFieldsAtAnyCut", fn := fun _ => fun
  | [d1, d2, d3] => { results := [.lit (.bool true)], args := [d1, d2, d3] }
  | _ => none }
def fnEncodeIsIDThenFieldsAtAnyCutRow : OpenClaim := { program := "qxb6613120a", sum := "4bb421f84c716a6a81bddc9038f6e389113b546fbe12a58754cd9402b606dafc", func := "example.com/quorumweave/quorumweave/zzlaws_wire_b1.FnEncodeIsIDThenFieldsAtAnyCut", spec := "fnEncodeIsIDThenFieldsAtAnyCut", unfollowed := true, recurses := true, named := ["encoding/binary.LittleEndian"], apart := false }
def FnEncodeIsIDThenFieldsAtAnyCutSaid : Prop := fnEncodeIsIDThenFieldsAtAnyCutRow.holds Try.pinned (OpenSpec.ofChange fnEncodeIsIDThenFieldsAtAnyCutSpec)

/-- ITS FALSE NEIGHBOUR: 'it returns false'. Refute it at one input. -/
def fnEncodeIsIDThenFieldsAtAnyCutWrong : ChangeSpec := { name := "fnEncodeIsIDThenFieldsAtAnyCut", fn := fun _ => fun
  | [d1, d2, d3] => { results := [.lit (.bool false)], args := [d1, d2, d3] }
  | _ => none }
def FnEncodeIsIDThenFieldsAtAnyCutWrongFalsely : Prop := fnEncodeIsIDThenFieldsAtAnyCutRow.holds Try.pinned (OpenSpec.ofChange fnEncodeIsIDThenFieldsAtAnyCutWrong)

/-- 'zzlaws_wire_b1.FnBytesIsTheEncodingSoFarAndKeepsIt': WHATEVER THE INPUT: true; the input reads as it did. -/
def fnBytesIsTheEncodingSoFarAndKeepsItSpec : ChangeSpec := { name := "fnBytesIsTheEncodingSoFarAndKeepsIt", fn := fun _ => fun
  | [d1, d2] => { results := [.lit (.bool true)], args := [d1, d2] }
  | _ => none }
def fnBytesIsTheEncodingSoFarAndKeepsItRow : OpenClaim := { program := "qxb6613120a", sum := "4bb421f84c716a6a81bddc9038f6e389113b546fbe12a58754cd9402b606dafc", func := "example.com/quorumweave/quorumweave/zzlaws_wire_b1.FnBytesIsTheEncodingSoFarAndKeepsIt", spec := "fnBytesIsTheEncodingSoFarAndKeepsIt", named := ["encoding/binary.LittleEndian"], apart := false }
def FnBytesIsTheEncodingSoFarAndKeepsItSaid : Prop := fnBytesIsTheEncodingSoFarAndKeepsItRow.holds Try.pinned (OpenSpec.ofChange fnBytesIsTheEncodingSoFarAndKeepsItSpec)

/-- ITS FALSE NEIGHBOUR: 'it returns false'. Refute it at one input. -/
def fnBytesIsTheEncodingSoFarAndKeepsItWrong : ChangeSpec := { name := "fnBytesIsTheEncodingSoFarAndKeepsIt", fn := fun _ => fun
  | [d1, d2] => { results := [.lit (.bool false)], args := [d1, d2] }
  | _ => none }
def FnBytesIsTheEncodingSoFarAndKeepsItWrongFalsely : Prop := fnBytesIsTheEncodingSoFarAndKeepsItRow.holds Try.pinned (OpenSpec.ofChange fnBytesIsTheEncodingSoFarAndKeepsItWrong)

/-- 'zzlaws_wire_b1.FnBytesAgreesWithEncode': WHATEVER THE INPUT: true; the input reads as it did. -/
def fnBytesAgreesWithEncodeSpec : ChangeSpec := { name := "fnBytesAgreesWithEncode", fn := fun _ => fun
  | [d1, d2] => { results := [.lit (.bool true)], args := [d1, d2] }
  | _ => none }
def fnBytesAgreesWithEncodeRow : OpenClaim := { program := "qxb6613120a", sum := "4bb421f84c716a6a81bddc9038f6e389113b546fbe12a58754cd9402b606dafc", func := "example.com/quorumweave/quorumweave/zzlaws_wire_b1.FnBytesAgreesWithEncode", spec := "fnBytesAgreesWithEncode", unfollowed := true, recurses := true, named := ["encoding/binary.LittleEndian"], apart := false }
def FnBytesAgreesWithEncodeSaid : Prop := fnBytesAgreesWithEncodeRow.holds Try.pinned (OpenSpec.ofChange fnBytesAgreesWithEncodeSpec)

/-- ITS FALSE NEIGHBOUR: 'it returns false'. Refute it at one input. -/
def fnBytesAgreesWithEncodeWrong : ChangeSpec := { name := "fnBytesAgreesWithEncode", fn := fun _ => fun
  | [d1, d2] => { results := [.lit (.bool false)], args := [d1, d2] }
  | _ => none }
def FnBytesAgreesWithEncodeWrongFalsely : Prop := fnBytesAgreesWithEncodeRow.holds Try.pinned (OpenSpec.ofChange fnBytesAgreesWithEncodeWrong)

/-- 'zzlaws_wire_b1.FnPutInt256AgreesWithFourLongs': WHATEVER THE INPUT: true; the input reads as it did. -/
def fnPutInt256AgreesWithFourLongsSpec : ChangeSpec := { name := "fnPutInt256AgreesWithFourLongs", fn := fun _ => fun
  | [d] => { results := [.lit (.bool true)], args := [d] }
  | _ => none }
def fnPutInt256AgreesWithFourLongsRow : OpenClaim := { program := "qxb6613120a", sum := "4bb421f84c716a6a81bddc9038f6e389113b546fbe12a58754cd9402b606dafc", func := "example.com/quorumweave/quorumweave/zzlaws_wire_b1.FnPutInt256AgreesWithFourLongs", spec := "fnPutInt256AgreesWithFourLongs", named := ["encoding/binary.LittleEndian"], apart := false }
def FnPutInt256AgreesWithFourLongsSaid : Prop := fnPutInt256AgreesWithFourLongsRow.holds Try.pinned (OpenSpec.ofChange fnPutInt256AgreesWithFourLongsSpec)

/-- ITS FALSE NEIGHBOUR: 'it returns false'. Refute it at one input. -/
def fnPutInt256AgreesWithFourLongsWrong : ChangeSpec := { name := "fnPutInt256AgreesWithFourLongs", fn := fun _ => fun
  | [d] => { results := [.lit (.bool false)], args := [d] }
  | _ => none }
def FnPutInt256AgreesWithFourLongsWrongFalsely : Prop := fnPutInt256AgreesWithFourLongsRow.holds Try.pinned (OpenSpec.ofChange fnPutInt256AgreesWithFourLongsWrong)

end Rows
end Go.Proofs.Qxb6613120a
