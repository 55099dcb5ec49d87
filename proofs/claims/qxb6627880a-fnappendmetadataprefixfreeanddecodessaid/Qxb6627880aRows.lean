/-
  No cell of these rows narrows 'for every input' (looked for: loops, veiled, ifaces, maps, wideKeys, modest, calm, conditions, laid).
  DERIVED. THE GIVEN ROWS OF THIS SEAT. 2 by the template 'for every input the law returns true; each argument reads behind the call as it read before'; 0 by the template 'total and deterministic' (their statements: Qxb6627880aTotals.lean).
  GIVEN WITH THE SEED: the statements are not yours to turn. If you find one false, say at which input.
  Laid BY PROGRAM, IN A SANDBOX (cutbox-rows.mjs): the forced cells as the released guide's own fill.sh prints them over the translation d3e1b338b5f82db7… (all of the seat's roots in one cut). By AI agents, Wed Nov 11 2026. No macro, syntax, notation, axiom, sorry.
-/
import Derived.Test.Qxb6627880aChecked
import GoSem.Claim
import GoSem.ClaimJoined
import GoSem.ClaimMapViews
import Derived.JoinedTies
import Derived.KernelRfl
namespace Go.Proofs.Qxb6627880a
/- THE CELL 'sum', in the pinned program and in every row, IS THE sha256 OF THE DUMP (.gsa) THAT Qxb6627880aProg.lean LOADS. Nothing in Lean hashes anything: it is a label: what it is worth is what the hold of that sum in a sandbox is worth. -/
noncomputable def Try.pinned : Pinned := { name := "qxb6627880a", sum := "d3e1b338b5f82db7a3b01405d9b7167562eb6244f0850f04a88ed6f927a4e46b", checked := Try.checked }
namespace Rows
def none {H : Type} : Left H := { results := [], args := [] }

/-- 'zzlaws_internal_proto_b1.FnAppendMetadataSplitAtAnyCutAndLength': WHATEVER THE INPUT: true; the input reads as it did. -/
def fnAppendMetadataSplitAtAnyCutAndLengthSpec : ChangeSpec := { name := "fnAppendMetadataSplitAtAnyCutAndLength", fn := fun _ => fun
  | [d1, d2, d3, d4] => { results := [.lit (.bool true)], args := [d1, d2, d3, d4] }
  | _ => none }
def fnAppendMetadataSplitAtAnyCutAndLengthRow : OpenClaim := { program := "qxb6627880a", sum := "d3e1b338b5f82db7a3b01405d9b7167562eb6244f0850f04a88ed6f927a4e46b", func := "example.com/tidemark/tidemark/zzlaws_internal_proto_b1.FnAppendMetadataSplitAtAnyCutAndLength", spec := "fnAppendMetadataSplitAtAnyCutAndLength", apart := false }
def FnAppendMetadataSplitAtAnyCutAndLengthSaid : Prop := fnAppendMetadataSplitAtAnyCutAndLengthRow.holds Try.pinned (OpenSpec.ofChange fnAppendMetadataSplitAtAnyCutAndLengthSpec)

/-- ITS FALSE NEIGHBOUR: 'it returns false'. Refute it at one input. -/
def fnAppendMetadataSplitAtAnyCutAndLengthWrong : ChangeSpec := { name := "fnAppendMetadataSplitAtAnyCutAndLength", fn := fun _ => fun
  | [d1, d2, d3, d4] => { results := [.lit (.bool false)], args := [d1, d2, d3, d4] }
  | _ => none }
def FnAppendMetadataSplitAtAnyCutAndLengthWrongFalsely : Prop := fnAppendMetadataSplitAtAnyCutAndLengthRow.holds Try.pinned (OpenSpec.ofChange fnAppendMetadataSplitAtAnyCutAndLengthWrong)

/-- 'zzlaws_internal_proto_b1.FnAppendMetadataPrefixFreeAndDecodes': WHATEVER THE INPUT: true; the input reads as it did. -/
def fnAppendMetadataPrefixFreeAndDecodesSpec : ChangeSpec := { name := "fnAppendMetadataPrefixFreeAndDecodes", fn := fun _ => fun
  | [d1, d2, d3] => { results := [.lit (.bool true)], args := [d1, d2, d3] }
  | _ => none }
def fnAppendMetadataPrefixFreeAndDecodesRow : OpenClaim := { program := "qxb6627880a", sum := "d3e1b338b5f82db7a3b01405d9b7167562eb6244f0850f04a88ed6f927a4e46b", func := "example.com/tidemark/tidemark/zzlaws_internal_proto_b1.FnAppendMetadataPrefixFreeAndDecodes", spec := "fnAppendMetadataPrefixFreeAndDecodes", apart := false }
def FnAppendMetadataPrefixFreeAndDecodesSaid : Prop := fnAppendMetadataPrefixFreeAndDecodesRow.holds Try.pinned (OpenSpec.ofChange fnAppendMetadataPrefixFreeAndDecodesSpec)

/-- ITS FALSE NEIGHBOUR: 'it returns false'. Refute it at one input. -/
def fnAppendMetadataPrefixFreeAndDecodesWrong : ChangeSpec := { name := "fnAppendMetadataPrefixFreeAndDecodes", fn := fun _ => fun
  | [d1, d2, d3] => { results := [.lit (.bool false)], args := [d1, d2, d3] }
  | _ => none }
def FnAppendMetadataPrefixFreeAndDecodesWrongFalsely : Prop := fnAppendMetadataPrefixFreeAndDecodesRow.holds Try.pinned (OpenSpec.ofChange fnAppendMetadataPrefixFreeAndDecodesWrong)

end Rows
end Go.Proofs.Qxb6627880a
