/-
  No cell of these rows narrows 'for every input' (looked for: loops, veiled, ifaces, maps, wideKeys, modest, calm, conditions, laid).
  DERIVED. THE GIVEN ROWS OF THIS SEAT. 1 by the template 'for every input the law returns true; each argument reads behind the call as it read before'; 0 by the template 'total and deterministic' (their statements: Qxb6628220aTotals.lean).
  GIVEN WITH THE SEED: the statements are not yours to turn. If you find one false, say at which input.
  Laid BY PROGRAM, IN A SANDBOX (cutbox-rows.mjs): the forced cells as the released guide's own fill.sh prints them over the translation 048bb2097c6d3976… (all of the seat's roots in one cut). By AI agents, Wed Nov 11 2026. No macro, syntax, notation, axiom, sorry.
-/
import Derived.Test.Qxb6628220aChecked
import GoSem.Claim
import GoSem.ClaimJoined
import GoSem.ClaimMapViews
import Derived.JoinedTies
import Derived.KernelRfl
namespace Go.Proofs.Qxb6628220a
/- THE CELL 'sum', in the pinned program and in every row, IS THE sha256 OF THE DUMP (.gsa) THAT Qxb6628220aProg.lean LOADS. Nothing in Lean hashes anything: it is a label: what it is worth is what the hold of that sum in a sandbox is worth. -/
noncomputable def Try.pinned : Pinned := { name := "qxb6628220a", sum := "048bb2097c6d397682f29c87c2d79ea553aa26957d218d0d6dc716dfc7fae216", checked := Try.checked }
namespace Rows
def none {H : Type} : Left H := { results := [], args := [] }

/-- 'zzlaws_contract_b1.FnLastSubscriptionSegmentInsert': WHATEVER THE INPUT: true; the input reads as it did. -/
def fnLastSubscriptionSegmentInsertSpec : ChangeSpec := { name := "fnLastSubscriptionSegmentInsert", fn := fun _ => fun
  | [d1, d2, d3, d4] => { results := [.lit (.bool true)], args := [d1, d2, d3, d4] }
  | _ => none }
def fnLastSubscriptionSegmentInsertRow : OpenClaim := { program := "qxb6628220a", sum := "048bb2097c6d397682f29c87c2d79ea553aa26957d218d0d6dc716dfc7fae216", func := "example.com/tranchery/tranchery/zzlaws_contract_b1.FnLastSubscriptionSegmentInsert", spec := "fnLastSubscriptionSegmentInsert", apart := false }
def FnLastSubscriptionSegmentInsertSaid : Prop := fnLastSubscriptionSegmentInsertRow.holds Try.pinned (OpenSpec.ofChange fnLastSubscriptionSegmentInsertSpec)

/-- ITS FALSE NEIGHBOUR: 'it returns false'. Refute it at one input. -/
def fnLastSubscriptionSegmentInsertWrong : ChangeSpec := { name := "fnLastSubscriptionSegmentInsert", fn := fun _ => fun
  | [d1, d2, d3, d4] => { results := [.lit (.bool false)], args := [d1, d2, d3, d4] }
  | _ => none }
def FnLastSubscriptionSegmentInsertWrongFalsely : Prop := fnLastSubscriptionSegmentInsertRow.holds Try.pinned (OpenSpec.ofChange fnLastSubscriptionSegmentInsertWrong)

end Rows
end Go.Proofs.Qxb6628220a
