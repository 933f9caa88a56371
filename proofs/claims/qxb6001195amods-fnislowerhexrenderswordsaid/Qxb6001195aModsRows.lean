/-
  No cell of these rows narrows 'for every input' (looked for: loops, veiled, ifaces, maps, wideKeys, modest, calm, conditions, laid).
  DERIVED. THE GIVEN ROWS OF THIS SEAT. 2 by the template 'for every input the law returns true; each argument reads behind the call as it read before'; 0 by the template 'total and deterministic' (their statements: Qxb6001195aModsTotals.lean).
  GIVEN WITH THE SEED: the statements are not yours to turn. If you find one false, say at which input.
  Laid BY PROGRAM, IN A SANDBOX (cutbox-rows.mjs): the forced cells as the released guide's own fill.sh prints them over the translation 4de6101cd9357bf0… (all of the seat's roots in one cut). By AI agents, Wed Nov 11 2026. No macro, syntax, notation, axiom, sorry.
-/
import Derived.Test.Qxb6001195aModsChecked
import GoSem.Claim
import GoSem.ClaimJoined
import GoSem.ClaimMapViews
import Derived.JoinedTies
import Derived.KernelRfl
namespace Go.Proofs.Qxb6001195aMods
/- THE CELL 'sum', in the pinned program and in every row, IS THE sha256 OF THE DUMP (.gsa) THAT Qxb6001195aModsProg.lean LOADS. Nothing in Lean hashes anything: it is a label: what it is worth is what the hold of that sum in a sandbox is worth. -/
noncomputable def Trym.pinned : Pinned := { name := "qxb6001195amods", sum := "4de6101cd9357bf043f4bf7f00600eb53a318e96b718a021d33e8897776f1844", checked := Trym.checked }
namespace Rows
def none {H : Type} : Left H := { results := [], args := [] }

/-- 'zzlaws_internal_event_b1.FnIsLowerHexConcat': WHATEVER THE INPUT: true; the input reads as it did. -/
def fnIsLowerHexConcatSpec : ChangeSpec := { name := "fnIsLowerHexConcat", fn := fun _ => fun
  | [d1, d2] => { results := [.lit (.bool true)], args := [d1, d2] }
  | _ => none }
def fnIsLowerHexConcatRow : OpenClaim := { program := "qxb6001195amods", sum := "4de6101cd9357bf043f4bf7f00600eb53a318e96b718a021d33e8897776f1844", func := "example.com/sextant/sextant/zzlaws_internal_event_b1.FnIsLowerHexConcat", spec := "fnIsLowerHexConcat", make := .lifted ["publicsums"], apart := false }
def FnIsLowerHexConcatSaid : Prop := fnIsLowerHexConcatRow.holds Trym.pinned (OpenSpec.ofChange fnIsLowerHexConcatSpec)

/-- ITS FALSE NEIGHBOUR: 'it returns false'. Refute it at one input. -/
def fnIsLowerHexConcatWrong : ChangeSpec := { name := "fnIsLowerHexConcat", fn := fun _ => fun
  | [d1, d2] => { results := [.lit (.bool false)], args := [d1, d2] }
  | _ => none }
def FnIsLowerHexConcatWrongFalsely : Prop := fnIsLowerHexConcatRow.holds Trym.pinned (OpenSpec.ofChange fnIsLowerHexConcatWrong)

/-- 'zzlaws_internal_event_b1.FnIsLowerHexRendersWord': WHATEVER THE INPUT: true; the input reads as it did. -/
def fnIsLowerHexRendersWordSpec : ChangeSpec := { name := "fnIsLowerHexRendersWord", fn := fun _ => fun
  | [d] => { results := [.lit (.bool true)], args := [d] }
  | _ => none }
def fnIsLowerHexRendersWordRow : OpenClaim := { program := "qxb6001195amods", sum := "4de6101cd9357bf043f4bf7f00600eb53a318e96b718a021d33e8897776f1844", func := "example.com/sextant/sextant/zzlaws_internal_event_b1.FnIsLowerHexRendersWord", spec := "fnIsLowerHexRendersWord", make := .lifted ["publicsums"], apart := false }
def FnIsLowerHexRendersWordSaid : Prop := fnIsLowerHexRendersWordRow.holds Trym.pinned (OpenSpec.ofChange fnIsLowerHexRendersWordSpec)

/-- ITS FALSE NEIGHBOUR: 'it returns false'. Refute it at one input. -/
def fnIsLowerHexRendersWordWrong : ChangeSpec := { name := "fnIsLowerHexRendersWord", fn := fun _ => fun
  | [d] => { results := [.lit (.bool false)], args := [d] }
  | _ => none }
def FnIsLowerHexRendersWordWrongFalsely : Prop := fnIsLowerHexRendersWordRow.holds Trym.pinned (OpenSpec.ofChange fnIsLowerHexRendersWordWrong)

end Rows
end Go.Proofs.Qxb6001195aMods
