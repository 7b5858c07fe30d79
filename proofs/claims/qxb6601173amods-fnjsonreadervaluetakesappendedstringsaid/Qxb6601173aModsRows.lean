/-
  No cell of these rows narrows 'for every input' (looked for: loops, veiled, ifaces, maps, wideKeys, modest, calm, conditions, laid).
  DERIVED. THE GIVEN ROWS OF THIS SEAT. 6 by the template 'for every input the law returns true; each argument reads behind the call as it read before'; 0 by the template 'total and deterministic' (their statements: Qxb6601173aModsTotals.lean).
  GIVEN WITH THE SEED: the statements are not yours to turn. If you find one false, say at which input.
  Laid BY PROGRAM, IN A SANDBOX (cutbox-rows.mjs): the forced cells as the released guide's own fill.sh prints them over the translation d31f96f100f09a61… (all of the seat's roots in one cut). By AI agents, Wed Nov 11 2026. No macro, syntax, notation, axiom, sorry.
-/
import Derived.Test.Qxb6601173aModsChecked
import GoSem.Claim
import GoSem.ClaimJoined
import GoSem.ClaimMapViews
import Derived.JoinedTies
import Derived.KernelRfl
namespace Go.Proofs.Qxb6601173aMods
/- THE CELL 'sum', in the pinned program and in every row, IS THE sha256 OF THE DUMP (.gsa) THAT Qxb6601173aModsProg.lean LOADS. Nothing in Lean hashes anything: it is a label: what it is worth is what the hold of that sum in a sandbox is worth. -/
noncomputable def Trym.pinned : Pinned := { name := "qxb6601173amods", sum := "d31f96f100f09a618e64dc8a18bea09c26a53c112d6724e49d26df32876fcbd2", checked := Trym.checked }
namespace Rows
def none {H : Type} : Left H := { results := [], args := [] }

/-- 'zzlaws_root_b1.FnAppendJSONStringCanonicalRoundTrip': WHATEVER THE INPUT: true; the input reads as it did. -/
def fnAppendJSONStringCanonicalRoundTripSpec : ChangeSpec := { name := "fnAppendJSONStringCanonicalRoundTrip", fn := fun _ => fun
  | [d1, d2] => { results := [.lit (.bool true)], args := [d1, d2] }
  | _ => none }
def fnAppendJSONStringCanonicalRoundTripRow : OpenClaim := { program := "qxb6601173amods", sum := "d31f96f100f09a618e64dc8a18bea09c26a53c112d6724e49d26df32876fcbd2", func := "example.com/acyclic/acyclic/zzlaws_root_b1.FnAppendJSONStringCanonicalRoundTrip", spec := "fnAppendJSONStringCanonicalRoundTrip", make := .lifted ["publicsums"], apart := false }
def FnAppendJSONStringCanonicalRoundTripSaid : Prop := fnAppendJSONStringCanonicalRoundTripRow.holds Trym.pinned (OpenSpec.ofChange fnAppendJSONStringCanonicalRoundTripSpec)

/-- ITS FALSE NEIGHBOUR: 'it returns false'. Refute it at one input. -/
def fnAppendJSONStringCanonicalRoundTripWrong : ChangeSpec := { name := "fnAppendJSONStringCanonicalRoundTrip", fn := fun _ => fun
  | [d1, d2] => { results := [.lit (.bool false)], args := [d1, d2] }
  | _ => none }
def FnAppendJSONStringCanonicalRoundTripWrongFalsely : Prop := fnAppendJSONStringCanonicalRoundTripRow.holds Trym.pinned (OpenSpec.ofChange fnAppendJSONStringCanonicalRoundTripWrong)

/-- 'zzlaws_root_b1.FnAppendJSONStringSplits': WHATEVER THE INPUT: true; the input reads as it did. -/
def fnAppendJSONStringSplitsSpec : ChangeSpec := { name := "fnAppendJSONStringSplits", fn := fun _ => fun
  | [d1, d2] => { results := [.lit (.bool true)], args := [d1, d2] }
  | _ => none }
def fnAppendJSONStringSplitsRow : OpenClaim := { program := "qxb6601173amods", sum := "d31f96f100f09a618e64dc8a18bea09c26a53c112d6724e49d26df32876fcbd2", func := "example.com/acyclic/acyclic/zzlaws_root_b1.FnAppendJSONStringSplits", spec := "fnAppendJSONStringSplits", make := .lifted ["publicsums"], apart := false }
def FnAppendJSONStringSplitsSaid : Prop := fnAppendJSONStringSplitsRow.holds Trym.pinned (OpenSpec.ofChange fnAppendJSONStringSplitsSpec)

/-- ITS FALSE NEIGHBOUR: 'it returns false'. Refute it at one input. -/
def fnAppendJSONStringSplitsWrong : ChangeSpec := { name := "fnAppendJSONStringSplits", fn := fun _ => fun
  | [d1, d2] => { results := [.lit (.bool false)], args := [d1, d2] }
  | _ => none }
def FnAppendJSONStringSplitsWrongFalsely : Prop := fnAppendJSONStringSplitsRow.holds Trym.pinned (OpenSpec.ofChange fnAppendJSONStringSplitsWrong)

/-- 'zzlaws_root_b1.FnJSONReaderValueReadsOneValue': WHATEVER THE INPUT: true; the input reads as it did. -/
def fnJSONReaderValueReadsOneValueSpec : ChangeSpec := { name := "fnJSONReaderValueReadsOneValue", fn := fun _ => fun
  | [d1, d2] => { results := [.lit (.bool true)], args := [d1, d2] }
  | _ => none }
def fnJSONReaderValueReadsOneValueRow : OpenClaim := { program := "qxb6601173amods", sum := "d31f96f100f09a618e64dc8a18bea09c26a53c112d6724e49d26df32876fcbd2", func := "example.com/acyclic/acyclic/zzlaws_root_b1.FnJSONReaderValueReadsOneValue", spec := "fnJSONReaderValueReadsOneValue", inPlace := ["internal/bytealg.IndexByteString"], make := .lifted ["publicsums"], apart := false }
def FnJSONReaderValueReadsOneValueSaid : Prop := fnJSONReaderValueReadsOneValueRow.holds Trym.pinned (OpenSpec.ofChange fnJSONReaderValueReadsOneValueSpec)

/-- ITS FALSE NEIGHBOUR: 'it returns false'. Refute it at one input. -/
def fnJSONReaderValueReadsOneValueWrong : ChangeSpec := { name := "fnJSONReaderValueReadsOneValue", fn := fun _ => fun
  | [d1, d2] => { results := [.lit (.bool false)], args := [d1, d2] }
  | _ => none }
def FnJSONReaderValueReadsOneValueWrongFalsely : Prop := fnJSONReaderValueReadsOneValueRow.holds Trym.pinned (OpenSpec.ofChange fnJSONReaderValueReadsOneValueWrong)

/-- 'zzlaws_root_b1.FnJSONReaderValueTakesAppendedString': WHATEVER THE INPUT: true; the input reads as it did. -/
def fnJSONReaderValueTakesAppendedStringSpec : ChangeSpec := { name := "fnJSONReaderValueTakesAppendedString", fn := fun _ => fun
  | [d1, d2] => { results := [.lit (.bool true)], args := [d1, d2] }
  | _ => none }
def fnJSONReaderValueTakesAppendedStringRow : OpenClaim := { program := "qxb6601173amods", sum := "d31f96f100f09a618e64dc8a18bea09c26a53c112d6724e49d26df32876fcbd2", func := "example.com/acyclic/acyclic/zzlaws_root_b1.FnJSONReaderValueTakesAppendedString", spec := "fnJSONReaderValueTakesAppendedString", inPlace := ["internal/bytealg.IndexByteString"], make := .lifted ["publicsums"], apart := false }
def FnJSONReaderValueTakesAppendedStringSaid : Prop := fnJSONReaderValueTakesAppendedStringRow.holds Trym.pinned (OpenSpec.ofChange fnJSONReaderValueTakesAppendedStringSpec)

/-- ITS FALSE NEIGHBOUR: 'it returns false'. Refute it at one input. -/
def fnJSONReaderValueTakesAppendedStringWrong : ChangeSpec := { name := "fnJSONReaderValueTakesAppendedString", fn := fun _ => fun
  | [d1, d2] => { results := [.lit (.bool false)], args := [d1, d2] }
  | _ => none }
def FnJSONReaderValueTakesAppendedStringWrongFalsely : Prop := fnJSONReaderValueTakesAppendedStringRow.holds Trym.pinned (OpenSpec.ofChange fnJSONReaderValueTakesAppendedStringWrong)

/-- 'zzlaws_root_b1.FnObjectAppendLineReadsBack': WHATEVER THE INPUT: true; the input reads as it did. -/
def fnObjectAppendLineReadsBackSpec : ChangeSpec := { name := "fnObjectAppendLineReadsBack", fn := fun _ => fun
  | [d1, d2, d3, d4, d5] => { results := [.lit (.bool true)], args := [d1, d2, d3, d4, d5] }
  | _ => none }
def fnObjectAppendLineReadsBackRow : OpenClaim := { program := "qxb6601173amods", sum := "d31f96f100f09a618e64dc8a18bea09c26a53c112d6724e49d26df32876fcbd2", func := "example.com/acyclic/acyclic/zzlaws_root_b1.FnObjectAppendLineReadsBack", spec := "fnObjectAppendLineReadsBack", recurses := true, make := .lifted ["publicsums"], apart := false }
def FnObjectAppendLineReadsBackSaid : Prop := fnObjectAppendLineReadsBackRow.holds Trym.pinned (OpenSpec.ofChange fnObjectAppendLineReadsBackSpec)

/-- ITS FALSE NEIGHBOUR: 'it returns false'. Refute it at one input. -/
def fnObjectAppendLineReadsBackWrong : ChangeSpec := { name := "fnObjectAppendLineReadsBack", fn := fun _ => fun
  | [d1, d2, d3, d4, d5] => { results := [.lit (.bool false)], args := [d1, d2, d3, d4, d5] }
  | _ => none }
def FnObjectAppendLineReadsBackWrongFalsely : Prop := fnObjectAppendLineReadsBackRow.holds Trym.pinned (OpenSpec.ofChange fnObjectAppendLineReadsBackWrong)

/-- 'zzlaws_root_b1.FnJSONReaderValueTakesWholeLine': WHATEVER THE INPUT: true; the input reads as it did. -/
def fnJSONReaderValueTakesWholeLineSpec : ChangeSpec := { name := "fnJSONReaderValueTakesWholeLine", fn := fun _ => fun
  | [d1, d2, d3, d4, d5] => { results := [.lit (.bool true)], args := [d1, d2, d3, d4, d5] }
  | _ => none }
def fnJSONReaderValueTakesWholeLineRow : OpenClaim := { program := "qxb6601173amods", sum := "d31f96f100f09a618e64dc8a18bea09c26a53c112d6724e49d26df32876fcbd2", func := "example.com/acyclic/acyclic/zzlaws_root_b1.FnJSONReaderValueTakesWholeLine", spec := "fnJSONReaderValueTakesWholeLine", inPlace := ["internal/bytealg.IndexByteString"], recurses := true, make := .lifted ["publicsums"], apart := false }
def FnJSONReaderValueTakesWholeLineSaid : Prop := fnJSONReaderValueTakesWholeLineRow.holds Trym.pinned (OpenSpec.ofChange fnJSONReaderValueTakesWholeLineSpec)

/-- ITS FALSE NEIGHBOUR: 'it returns false'. Refute it at one input. -/
def fnJSONReaderValueTakesWholeLineWrong : ChangeSpec := { name := "fnJSONReaderValueTakesWholeLine", fn := fun _ => fun
  | [d1, d2, d3, d4, d5] => { results := [.lit (.bool false)], args := [d1, d2, d3, d4, d5] }
  | _ => none }
def FnJSONReaderValueTakesWholeLineWrongFalsely : Prop := fnJSONReaderValueTakesWholeLineRow.holds Trym.pinned (OpenSpec.ofChange fnJSONReaderValueTakesWholeLineWrong)

end Rows
end Go.Proofs.Qxb6601173aMods
