/-
  No cell of these rows narrows 'for every input' (looked for: loops, veiled, ifaces, maps, wideKeys, modest, calm, conditions, laid).
  DERIVED. THE GIVEN ROWS OF THIS SEAT. 2 by the template 'for every input the law returns true; each argument reads behind the call as it read before'; 0 by the template 'total and deterministic' (their statements: Qxb6627843aTotals.lean).
  GIVEN WITH THE SEED: the statements are not yours to turn. If you find one false, say at which input.
  Laid BY PROGRAM, IN A SANDBOX (cutbox-rows.mjs): the forced cells as the released guide's own fill.sh prints them over the translation 11e291db3aaf84c9… (all of the seat's roots in one cut). By AI agents, Wed Nov 11 2026. No macro, syntax, notation, axiom, sorry.
-/
import Derived.Test.Qxb6627843aChecked
import GoSem.Claim
import GoSem.ClaimJoined
import GoSem.ClaimMapViews
import Derived.JoinedTies
import Derived.KernelRfl
namespace Go.Proofs.Qxb6627843a
/- THE CELL 'sum', in the pinned program and in every row, IS THE sha256 OF THE DUMP (.gsa) THAT Qxb6627843aProg.lean LOADS. Nothing in Lean hashes anything: it is a label: what it is worth is what the hold of that sum in a sandbox is worth. -/
noncomputable def Try.pinned : Pinned := { name := "qxb6627843a", sum := "11e291db3aaf84c962046f07987c6c1242dd39ebf09b932c61c3c9e2fb888248", checked := Try.checked }
namespace Rows
def none {H : Type} : Left H := { results := [], args := [] }

/-- 'zzlaws_internal_trace_b1.FnXRayCutAnywhereAndStrip': WHATEVER THE INPUT: true; the input reads as it did. -/
def fnXRayCutAnywhereAndStripSpec : ChangeSpec := { name := "fnXRayCutAnywhereAndStrip", fn := fun _ => fun
  | [d1, d2] => { results := [.lit (.bool true)], args := [d1, d2] }
  | _ => none }
def fnXRayCutAnywhereAndStripRow : OpenClaim := { program := "qxb6627843a", sum := "11e291db3aaf84c962046f07987c6c1242dd39ebf09b932c61c3c9e2fb888248", func := "example.com/tapline/tapline/zzlaws_internal_trace_b1.FnXRayCutAnywhereAndStrip", spec := "fnXRayCutAnywhereAndStrip", apart := false }
def FnXRayCutAnywhereAndStripSaid : Prop := fnXRayCutAnywhereAndStripRow.holds Try.pinned (OpenSpec.ofChange fnXRayCutAnywhereAndStripSpec)

/-- ITS FALSE NEIGHBOUR: 'it returns false'. Refute it at one input. -/
def fnXRayCutAnywhereAndStripWrong : ChangeSpec := { name := "fnXRayCutAnywhereAndStrip", fn := fun _ => fun
  | [d1, d2] => { results := [.lit (.bool false)], args := [d1, d2] }
  | _ => none }
def FnXRayCutAnywhereAndStripWrongFalsely : Prop := fnXRayCutAnywhereAndStripRow.holds Try.pinned (OpenSpec.ofChange fnXRayCutAnywhereAndStripWrong)

/-- 'zzlaws_internal_trace_b1.FnXRayKeepsOrderAndAddsThree': WHATEVER THE INPUT: true; the input reads as it did. -/
def fnXRayKeepsOrderAndAddsThreeSpec : ChangeSpec := { name := "fnXRayKeepsOrderAndAddsThree", fn := fun _ => fun
  | [d1, d2] => { results := [.lit (.bool true)], args := [d1, d2] }
  | _ => none }
def fnXRayKeepsOrderAndAddsThreeRow : OpenClaim := { program := "qxb6627843a", sum := "11e291db3aaf84c962046f07987c6c1242dd39ebf09b932c61c3c9e2fb888248", func := "example.com/tapline/tapline/zzlaws_internal_trace_b1.FnXRayKeepsOrderAndAddsThree", spec := "fnXRayKeepsOrderAndAddsThree", apart := false }
def FnXRayKeepsOrderAndAddsThreeSaid : Prop := fnXRayKeepsOrderAndAddsThreeRow.holds Try.pinned (OpenSpec.ofChange fnXRayKeepsOrderAndAddsThreeSpec)

/-- ITS FALSE NEIGHBOUR: 'it returns false'. Refute it at one input. -/
def fnXRayKeepsOrderAndAddsThreeWrong : ChangeSpec := { name := "fnXRayKeepsOrderAndAddsThree", fn := fun _ => fun
  | [d1, d2] => { results := [.lit (.bool false)], args := [d1, d2] }
  | _ => none }
def FnXRayKeepsOrderAndAddsThreeWrongFalsely : Prop := fnXRayKeepsOrderAndAddsThreeRow.holds Try.pinned (OpenSpec.ofChange fnXRayKeepsOrderAndAddsThreeWrong)

end Rows
end Go.Proofs.Qxb6627843a
