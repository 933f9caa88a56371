/-
  No cell of these rows narrows 'for every input' (looked for: loops, veiled, ifaces, maps, wideKeys, modest, calm, conditions, laid).
  DERIVED. THE GIVEN ROWS OF THIS SEAT. 4 by the template 'for every input the law returns true; each argument reads behind the call as it read before'; 0 by the template 'total and deterministic' (their statements: Qxb6612649aModsTotals.lean).
  GIVEN WITH THE SEED: the statements are not yours to turn. If you find one false, say at which input.
  Laid BY PROGRAM, IN A SANDBOX (cutbox-rows.mjs): the forced cells as the released guide's own fill.sh prints them over the translation 4b5dbecf7c517d6c… (all of the seat's roots in one cut). By AI agents, Wed Nov 11 2026. No macro, syntax, notation, axiom, sorry.
-/
import Derived.Test.Qxb6612649aModsChecked
import GoSem.Claim
import GoSem.ClaimJoined
import GoSem.ClaimMapViews
import Derived.JoinedTies
import Derived.KernelRfl
namespace Go.Proofs.Qxb6612649aMods
/- THE CELL 'sum', in the pinned program and in every row, IS THE sha256 OF THE DUMP (.gsa) THAT Qxb6612649aModsProg.lean LOADS. Nothing in Lean hashes anything: it is a label: what it is worth is what the hold of that sum in a sandbox is worth. -/
noncomputable def Trym.pinned : Pinned := { name := "qxb6612649amods", sum := "4b5dbecf7c517d6ce291af22d62859de232cb3014ef6200363c14e1ae5a96b18", checked := Trym.checked }
namespace Rows
def none {H : Type} : Left H := { results := [], args := [] }

/-- 'zzlaws_api_b1.FnLetsIsAnOrderWithAdminOnTop': WHATEVER THE INPUT: true; the input reads as it did. -/
def fnLetsIsAnOrderWithAdminOnTopSpec : ChangeSpec := { name := "fnLetsIsAnOrderWithAdminOnTop", fn := fun _ => fun
  | [d1, d2, d3, d4] => { results := [.lit (.bool true)], args := [d1, d2, d3, d4] }
  | _ => none }
def fnLetsIsAnOrderWithAdminOnTopRow : OpenClaim := { program := "qxb6612649amods", sum := "4b5dbecf7c517d6ce291af22d62859de232cb3014ef6200363c14e1ae5a96b18", func := "example.com/muster/muster/zzlaws_api_b1.FnLetsIsAnOrderWithAdminOnTop", spec := "fnLetsIsAnOrderWithAdminOnTop", make := .lifted ["publicsums"], apart := false }
def FnLetsIsAnOrderWithAdminOnTopSaid : Prop := fnLetsIsAnOrderWithAdminOnTopRow.holds Trym.pinned (OpenSpec.ofChange fnLetsIsAnOrderWithAdminOnTopSpec)

/-- ITS FALSE NEIGHBOUR: 'it returns false'. Refute it at one input. -/
def fnLetsIsAnOrderWithAdminOnTopWrong : ChangeSpec := { name := "fnLetsIsAnOrderWithAdminOnTop", fn := fun _ => fun
  | [d1, d2, d3, d4] => { results := [.lit (.bool false)], args := [d1, d2, d3, d4] }
  | _ => none }
def FnLetsIsAnOrderWithAdminOnTopWrongFalsely : Prop := fnLetsIsAnOrderWithAdminOnTopRow.holds Trym.pinned (OpenSpec.ofChange fnLetsIsAnOrderWithAdminOnTopWrong)

/-- 'zzlaws_api_b1.FnHeaderIsTheMapTheAnswerWasMadeWith': WHATEVER THE INPUT: true; the input reads as it did. -/
def fnHeaderIsTheMapTheAnswerWasMadeWithSpec : ChangeSpec := { name := "fnHeaderIsTheMapTheAnswerWasMadeWith", fn := fun _ => fun
  | [d1, d2, d3, d4] => { results := [.lit (.bool true)], args := [d1, d2, d3, d4] }
  | _ => none }
def fnHeaderIsTheMapTheAnswerWasMadeWithRow : OpenClaim := { program := "qxb6612649amods", sum := "4b5dbecf7c517d6ce291af22d62859de232cb3014ef6200363c14e1ae5a96b18", func := "example.com/muster/muster/zzlaws_api_b1.FnHeaderIsTheMapTheAnswerWasMadeWith", spec := "fnHeaderIsTheMapTheAnswerWasMadeWith", make := .lifted ["publicsums"], apart := false }
def FnHeaderIsTheMapTheAnswerWasMadeWithSaid : Prop := fnHeaderIsTheMapTheAnswerWasMadeWithRow.holds Trym.pinned (OpenSpec.ofChange fnHeaderIsTheMapTheAnswerWasMadeWithSpec)

/-- ITS FALSE NEIGHBOUR: 'it returns false'. Refute it at one input. -/
def fnHeaderIsTheMapTheAnswerWasMadeWithWrong : ChangeSpec := { name := "fnHeaderIsTheMapTheAnswerWasMadeWith", fn := fun _ => fun
  | [d1, d2, d3, d4] => { results := [.lit (.bool false)], args := [d1, d2, d3, d4] }
  | _ => none }
def FnHeaderIsTheMapTheAnswerWasMadeWithWrongFalsely : Prop := fnHeaderIsTheMapTheAnswerWasMadeWithRow.holds Trym.pinned (OpenSpec.ofChange fnHeaderIsTheMapTheAnswerWasMadeWithWrong)

/-- 'zzlaws_api_b1.FnEarnedIsTheMinuteShareWithinANanosecond': WHATEVER THE INPUT: true; the input reads as it did. -/
def fnEarnedIsTheMinuteShareWithinANanosecondSpec : ChangeSpec := { name := "fnEarnedIsTheMinuteShareWithinANanosecond", fn := fun _ => fun
  | [d1, d2, d3] => { results := [.lit (.bool true)], args := [d1, d2, d3] }
  | _ => none }
def fnEarnedIsTheMinuteShareWithinANanosecondRow : OpenClaim := { program := "qxb6612649amods", sum := "4b5dbecf7c517d6ce291af22d62859de232cb3014ef6200363c14e1ae5a96b18", func := "example.com/muster/muster/zzlaws_api_b1.FnEarnedIsTheMinuteShareWithinANanosecond", spec := "fnEarnedIsTheMinuteShareWithinANanosecond", inPlace := ["(*internal/sync.Mutex).Lock", "internal/race.Disable", "sync/atomic.CompareAndSwapInt32", "internal/race.Enable", "internal/race.Acquire", "(*internal/sync.Mutex).lockSlow", "internal/sync.runtime_canSpin", "internal/sync.runtime_doSpin", "internal/sync.throw", "internal/sync.runtime_nanotime", "internal/sync.runtime_SemacquireMutex", "sync/atomic.AddInt32", "(*internal/sync.Mutex).Unlock", "internal/race.ReleaseMerge", "(*internal/sync.Mutex).unlockSlow", "internal/sync.fatal", "internal/sync.runtime_Semrelease"], make := .lifted ["publicsums"], apart := false }
def FnEarnedIsTheMinuteShareWithinANanosecondSaid : Prop := fnEarnedIsTheMinuteShareWithinANanosecondRow.holds Trym.pinned (OpenSpec.ofChange fnEarnedIsTheMinuteShareWithinANanosecondSpec)

/-- ITS FALSE NEIGHBOUR: 'it returns false'. Refute it at one input. -/
def fnEarnedIsTheMinuteShareWithinANanosecondWrong : ChangeSpec := { name := "fnEarnedIsTheMinuteShareWithinANanosecond", fn := fun _ => fun
  | [d1, d2, d3] => { results := [.lit (.bool false)], args := [d1, d2, d3] }
  | _ => none }
def FnEarnedIsTheMinuteShareWithinANanosecondWrongFalsely : Prop := fnEarnedIsTheMinuteShareWithinANanosecondRow.holds Trym.pinned (OpenSpec.ofChange fnEarnedIsTheMinuteShareWithinANanosecondWrong)

/-- 'zzlaws_api_b1.FnEarnedIsScaleFreeAndGrowsWithWhatArrived': WHATEVER THE INPUT: true; the input reads as it did. -/
def fnEarnedIsScaleFreeAndGrowsWithWhatArrivedSpec : ChangeSpec := { name := "fnEarnedIsScaleFreeAndGrowsWithWhatArrived", fn := fun _ => fun
  | [d1, d2, d3, d4, d5] => { results := [.lit (.bool true)], args := [d1, d2, d3, d4, d5] }
  | _ => none }
def fnEarnedIsScaleFreeAndGrowsWithWhatArrivedRow : OpenClaim := { program := "qxb6612649amods", sum := "4b5dbecf7c517d6ce291af22d62859de232cb3014ef6200363c14e1ae5a96b18", func := "example.com/muster/muster/zzlaws_api_b1.FnEarnedIsScaleFreeAndGrowsWithWhatArrived", spec := "fnEarnedIsScaleFreeAndGrowsWithWhatArrived", inPlace := ["(*internal/sync.Mutex).Lock", "internal/race.Disable", "sync/atomic.CompareAndSwapInt32", "internal/race.Enable", "internal/race.Acquire", "(*internal/sync.Mutex).lockSlow", "internal/sync.runtime_canSpin", "internal/sync.runtime_doSpin", "internal/sync.throw", "internal/sync.runtime_nanotime", "internal/sync.runtime_SemacquireMutex", "sync/atomic.AddInt32", "(*internal/sync.Mutex).Unlock", "internal/race.ReleaseMerge", "(*internal/sync.Mutex).unlockSlow", "internal/sync.fatal", "internal/sync.runtime_Semrelease"], make := .lifted ["publicsums"], apart := false }
def FnEarnedIsScaleFreeAndGrowsWithWhatArrivedSaid : Prop := fnEarnedIsScaleFreeAndGrowsWithWhatArrivedRow.holds Trym.pinned (OpenSpec.ofChange fnEarnedIsScaleFreeAndGrowsWithWhatArrivedSpec)

/-- ITS FALSE NEIGHBOUR: 'it returns false'. Refute it at one input. -/
def fnEarnedIsScaleFreeAndGrowsWithWhatArrivedWrong : ChangeSpec := { name := "fnEarnedIsScaleFreeAndGrowsWithWhatArrived", fn := fun _ => fun
  | [d1, d2, d3, d4, d5] => { results := [.lit (.bool false)], args := [d1, d2, d3, d4, d5] }
  | _ => none }
def FnEarnedIsScaleFreeAndGrowsWithWhatArrivedWrongFalsely : Prop := fnEarnedIsScaleFreeAndGrowsWithWhatArrivedRow.holds Trym.pinned (OpenSpec.ofChange fnEarnedIsScaleFreeAndGrowsWithWhatArrivedWrong)

end Rows
end Go.Proofs.Qxb6612649aMods
