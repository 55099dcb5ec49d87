/-
  No cell of these rows narrows 'for every input' (looked for: loops, veiled, ifaces, maps, wideKeys, modest, calm, conditions, laid).
  DERIVED. THE GIVEN ROWS OF THIS SEAT. 2 by the template 'for every input the law returns true; each argument reads behind the call as it read before'; 0 by the template 'total and deterministic' (their statements: Qxb6627794aTotals.lean).
  GIVEN WITH THE SEED: the statements are not yours to turn. If you find one false, say at which input.
  Laid BY PROGRAM, IN A SANDBOX (cutbox-rows.mjs): the forced cells as the released guide's own fill.sh prints them over the translation e68cd25ff519b6d7… (all of the seat's roots in one cut). By AI agents, Wed Nov 11 2026. No macro, syntax, notation, axiom, sorry.
-/
import Derived.Test.Qxb6627794aChecked
import GoSem.Claim
import GoSem.ClaimJoined
import GoSem.ClaimMapViews
import Derived.JoinedTies
import Derived.KernelRfl
namespace Go.Proofs.Qxb6627794a
/- THE CELL 'sum', in the pinned program and in every row, IS THE sha256 OF THE DUMP (.gsa) THAT Qxb6627794aProg.lean LOADS. Nothing in Lean hashes anything: it is a label: what it is worth is what the hold of that sum in a sandbox is worth. -/
noncomputable def Try.pinned : Pinned := { name := "qxb6627794a", sum := "e68cd25ff519b6d7dd0aa7fe9fcf2ca233b2a140273a381b19633a1b494d32cd", checked := Try.checked }
namespace Rows
def none {H : Type} : Left H := { results := [], args := [] }

/-- 'zzlaws_filter_b1.FnBindFirstAppearanceSlots': WHATEVER THE INPUT: true; the input reads as it did. -/
def fnBindFirstAppearanceSlotsSpec : ChangeSpec := { name := "fnBindFirstAppearanceSlots", fn := fun _ => fun
  | [d1, d2] => { results := [.lit (.bool true)], args := [d1, d2] }
  | _ => none }
def fnBindFirstAppearanceSlotsRow : OpenClaim := { program := "qxb6627794a", sum := "e68cd25ff519b6d7dd0aa7fe9fcf2ca233b2a140273a381b19633a1b494d32cd", func := "example.com/menhaden/menhaden/zzlaws_filter_b1.FnBindFirstAppearanceSlots", spec := "fnBindFirstAppearanceSlots", apart := false }
def FnBindFirstAppearanceSlotsSaid : Prop := fnBindFirstAppearanceSlotsRow.holds Try.pinned (OpenSpec.ofChange fnBindFirstAppearanceSlotsSpec)

/-- ITS FALSE NEIGHBOUR: 'it returns false'. Refute it at one input. -/
def fnBindFirstAppearanceSlotsWrong : ChangeSpec := { name := "fnBindFirstAppearanceSlots", fn := fun _ => fun
  | [d1, d2] => { results := [.lit (.bool false)], args := [d1, d2] }
  | _ => none }
def FnBindFirstAppearanceSlotsWrongFalsely : Prop := fnBindFirstAppearanceSlotsRow.holds Try.pinned (OpenSpec.ofChange fnBindFirstAppearanceSlotsWrong)

/-- 'zzlaws_filter_b1.FnBindSplitAgrees': WHATEVER THE INPUT: true; the input reads as it did. -/
def fnBindSplitAgreesSpec : ChangeSpec := { name := "fnBindSplitAgrees", fn := fun _ => fun
  | [d1, d2] => { results := [.lit (.bool true)], args := [d1, d2] }
  | _ => none }
def fnBindSplitAgreesRow : OpenClaim := { program := "qxb6627794a", sum := "e68cd25ff519b6d7dd0aa7fe9fcf2ca233b2a140273a381b19633a1b494d32cd", func := "example.com/menhaden/menhaden/zzlaws_filter_b1.FnBindSplitAgrees", spec := "fnBindSplitAgrees", apart := false }
def FnBindSplitAgreesSaid : Prop := fnBindSplitAgreesRow.holds Try.pinned (OpenSpec.ofChange fnBindSplitAgreesSpec)

/-- ITS FALSE NEIGHBOUR: 'it returns false'. Refute it at one input. -/
def fnBindSplitAgreesWrong : ChangeSpec := { name := "fnBindSplitAgrees", fn := fun _ => fun
  | [d1, d2] => { results := [.lit (.bool false)], args := [d1, d2] }
  | _ => none }
def FnBindSplitAgreesWrongFalsely : Prop := fnBindSplitAgreesRow.holds Try.pinned (OpenSpec.ofChange fnBindSplitAgreesWrong)

end Rows
end Go.Proofs.Qxb6627794a
