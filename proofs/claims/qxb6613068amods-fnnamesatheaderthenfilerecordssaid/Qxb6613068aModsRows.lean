/-
  No cell of these rows narrows 'for every input' (looked for: loops, veiled, ifaces, maps, wideKeys, modest, calm, conditions, laid).
  DERIVED. THE GIVEN ROWS OF THIS SEAT. 3 by the template 'for every input the law returns true; each argument reads behind the call as it read before'; 0 by the template 'total and deterministic' (their statements: Qxb6613068aModsTotals.lean).
  GIVEN WITH THE SEED: the statements are not yours to turn. If you find one false, say at which input.
  Laid BY PROGRAM, IN A SANDBOX (cutbox-rows.mjs): the forced cells as the released guide's own fill.sh prints them over the translation d7e518d5a7b2eb95… (all of the seat's roots in one cut). By AI agents, Wed Nov 11 2026. No macro, syntax, notation, axiom, sorry.
-/
import Derived.Test.Qxb6613068aModsChecked
import GoSem.Claim
import GoSem.ClaimJoined
import GoSem.ClaimMapViews
import Derived.JoinedTies
import Derived.KernelRfl
namespace Go.Proofs.Qxb6613068aMods
/- THE CELL 'sum', in the pinned program and in every row, IS THE sha256 OF THE DUMP (.gsa) THAT Qxb6613068aModsProg.lean LOADS. Nothing in Lean hashes anything: it is a label: what it is worth is what the hold of that sum in a sandbox is worth. -/
noncomputable def Trym.pinned : Pinned := { name := "qxb6613068amods", sum := "d7e518d5a7b2eb95466748b232cfcf335dd7d911f3079c0ecf291fc5749a6f87", checked := Trym.checked }
namespace Rows
def none {H : Type} : Left H := { results := [], args := [] }

/-- 'zzlaws_internal_store_b1.FnSumPrefixOrdersAsLeadingBytes': WHATEVER THE INPUT: true; the input reads as it did. -/
def fnSumPrefixOrdersAsLeadingBytesSpec : ChangeSpec := { name := "fnSumPrefixOrdersAsLeadingBytes", fn := fun _ => fun
  | [d1, d2] => { results := [.lit (.bool true)], args := [d1, d2] }
  | _ => none }
def fnSumPrefixOrdersAsLeadingBytesRow : OpenClaim := { program := "qxb6613068amods", sum := "d7e518d5a7b2eb95466748b232cfcf335dd7d911f3079c0ecf291fc5749a6f87", func := "example.com/keyward/keyward/zzlaws_internal_store_b1.FnSumPrefixOrdersAsLeadingBytes", spec := "fnSumPrefixOrdersAsLeadingBytes", named := ["encoding/binary.BigEndian"], make := .lifted ["publicsums"], apart := false }
def FnSumPrefixOrdersAsLeadingBytesSaid : Prop := fnSumPrefixOrdersAsLeadingBytesRow.holds Trym.pinned (OpenSpec.ofChange fnSumPrefixOrdersAsLeadingBytesSpec)

/-- ITS FALSE NEIGHBOUR: 'it returns false'. Refute it at one input. -/
def fnSumPrefixOrdersAsLeadingBytesWrong : ChangeSpec := { name := "fnSumPrefixOrdersAsLeadingBytes", fn := fun _ => fun
  | [d1, d2] => { results := [.lit (.bool false)], args := [d1, d2] }
  | _ => none }
def FnSumPrefixOrdersAsLeadingBytesWrongFalsely : Prop := fnSumPrefixOrdersAsLeadingBytesRow.holds Trym.pinned (OpenSpec.ofChange fnSumPrefixOrdersAsLeadingBytesWrong)

/-- 'zzlaws_internal_store_b1.FnSumPrefixWeighsEachByte': WHATEVER THE INPUT: true; the input reads as it did. -/
def fnSumPrefixWeighsEachByteSpec : ChangeSpec := { name := "fnSumPrefixWeighsEachByte", fn := fun _ => fun
  | [d1, d2, d3] => { results := [.lit (.bool true)], args := [d1, d2, d3] }
  | _ => none }
def fnSumPrefixWeighsEachByteRow : OpenClaim := { program := "qxb6613068amods", sum := "d7e518d5a7b2eb95466748b232cfcf335dd7d911f3079c0ecf291fc5749a6f87", func := "example.com/keyward/keyward/zzlaws_internal_store_b1.FnSumPrefixWeighsEachByte", spec := "fnSumPrefixWeighsEachByte", named := ["encoding/binary.BigEndian"], make := .lifted ["publicsums"], apart := false }
def FnSumPrefixWeighsEachByteSaid : Prop := fnSumPrefixWeighsEachByteRow.holds Trym.pinned (OpenSpec.ofChange fnSumPrefixWeighsEachByteSpec)

/-- ITS FALSE NEIGHBOUR: 'it returns false'. Refute it at one input. -/
def fnSumPrefixWeighsEachByteWrong : ChangeSpec := { name := "fnSumPrefixWeighsEachByte", fn := fun _ => fun
  | [d1, d2, d3] => { results := [.lit (.bool false)], args := [d1, d2, d3] }
  | _ => none }
def FnSumPrefixWeighsEachByteWrongFalsely : Prop := fnSumPrefixWeighsEachByteRow.holds Trym.pinned (OpenSpec.ofChange fnSumPrefixWeighsEachByteWrong)

/-- 'zzlaws_internal_store_b1.FnNamesAtHeaderThenFileRecords': WHATEVER THE INPUT: true; the input reads as it did. -/
def fnNamesAtHeaderThenFileRecordsSpec : ChangeSpec := { name := "fnNamesAtHeaderThenFileRecords", fn := fun _ => fun
  | [d1, d2, d3, d4, d5] => { results := [.lit (.bool true)], args := [d1, d2, d3, d4, d5] }
  | _ => none }
def fnNamesAtHeaderThenFileRecordsRow : OpenClaim := { program := "qxb6613068amods", sum := "d7e518d5a7b2eb95466748b232cfcf335dd7d911f3079c0ecf291fc5749a6f87", func := "example.com/keyward/keyward/zzlaws_internal_store_b1.FnNamesAtHeaderThenFileRecords", spec := "fnNamesAtHeaderThenFileRecords", make := .lifted ["publicsums"], apart := false }
def FnNamesAtHeaderThenFileRecordsSaid : Prop := fnNamesAtHeaderThenFileRecordsRow.holds Trym.pinned (OpenSpec.ofChange fnNamesAtHeaderThenFileRecordsSpec)

/-- ITS FALSE NEIGHBOUR: 'it returns false'. Refute it at one input. -/
def fnNamesAtHeaderThenFileRecordsWrong : ChangeSpec := { name := "fnNamesAtHeaderThenFileRecords", fn := fun _ => fun
  | [d1, d2, d3, d4, d5] => { results := [.lit (.bool false)], args := [d1, d2, d3, d4, d5] }
  | _ => none }
def FnNamesAtHeaderThenFileRecordsWrongFalsely : Prop := fnNamesAtHeaderThenFileRecordsRow.holds Trym.pinned (OpenSpec.ofChange fnNamesAtHeaderThenFileRecordsWrong)

end Rows
end Go.Proofs.Qxb6613068aMods
