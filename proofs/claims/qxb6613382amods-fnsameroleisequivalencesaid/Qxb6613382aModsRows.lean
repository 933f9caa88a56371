/-
  No cell of these rows narrows 'for every input' (looked for: loops, veiled, ifaces, maps, wideKeys, modest, calm, conditions, laid).
  DERIVED. THE GIVEN ROWS OF THIS SEAT. 1 by the template 'for every input the law returns true; each argument reads behind the call as it read before'; 0 by the template 'total and deterministic' (their statements: Qxb6613382aModsTotals.lean).
  GIVEN WITH THE SEED: the statements are not yours to turn. If you find one false, say at which input.
  Laid BY PROGRAM, IN A SANDBOX (cutbox-rows.mjs): the forced cells as the released guide's own fill.sh prints them over the translation 57162321587bca58… (all of the seat's roots in one cut). By AI agents, Wed Nov 11 2026. No macro, syntax, notation, axiom, sorry.
-/
import Derived.Test.Qxb6613382aModsChecked
import GoSem.Claim
import GoSem.ClaimJoined
import GoSem.ClaimMapViews
import Derived.JoinedTies
import Derived.KernelRfl
namespace Go.Proofs.Qxb6613382aMods
/- THE CELL 'sum', in the pinned program and in every row, IS THE sha256 OF THE DUMP (.gsa) THAT Qxb6613382aModsProg.lean LOADS. Nothing in Lean hashes anything: it is a label: what it is worth is what the hold of that sum in a sandbox is worth. -/
noncomputable def Trym.pinned : Pinned := { name := "qxb6613382amods", sum := "57162321587bca58f825211be52176003b77e0161c53da07da5d9e7bee9c5ba7", checked := Trym.checked }
namespace Rows
def none {H : Type} : Left H := { results := [], args := [] }

/-- 'zzlaws_monitor_b1.FnSameRoleIsEquivalence': WHATEVER THE INPUT: true; the input reads as it did. -/
def fnSameRoleIsEquivalenceSpec : ChangeSpec := { name := "fnSameRoleIsEquivalence", fn := fun _ => fun
  | [d1, d2, d3] => { results := [.lit (.bool true)], args := [d1, d2, d3] }
  | _ => none }
def fnSameRoleIsEquivalenceRow : OpenClaim := { program := "qxb6613382amods", sum := "57162321587bca58f825211be52176003b77e0161c53da07da5d9e7bee9c5ba7", func := "example.com/watchkeep/watchkeep/zzlaws_monitor_b1.FnSameRoleIsEquivalence", spec := "fnSameRoleIsEquivalence", make := .lifted ["publicsums"], apart := false }
def FnSameRoleIsEquivalenceSaid : Prop := fnSameRoleIsEquivalenceRow.holds Trym.pinned (OpenSpec.ofChange fnSameRoleIsEquivalenceSpec)

/-- ITS FALSE NEIGHBOUR: 'it returns false'. Refute it at one input. -/
def fnSameRoleIsEquivalenceWrong : ChangeSpec := { name := "fnSameRoleIsEquivalence", fn := fun _ => fun
  | [d1, d2, d3] => { results := [.lit (.bool false)], args := [d1, d2, d3] }
  | _ => none }
def FnSameRoleIsEquivalenceWrongFalsely : Prop := fnSameRoleIsEquivalenceRow.holds Trym.pinned (OpenSpec.ofChange fnSameRoleIsEquivalenceWrong)

end Rows
end Go.Proofs.Qxb6613382aMods
