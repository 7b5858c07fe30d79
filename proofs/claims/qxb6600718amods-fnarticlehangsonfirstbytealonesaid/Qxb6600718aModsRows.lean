/-
  No cell of these rows narrows 'for every input' (looked for: loops, veiled, ifaces, maps, wideKeys, modest, calm, conditions, laid).
  DERIVED. THE GIVEN ROWS OF THIS SEAT. 4 by the template 'for every input the law returns true; each argument reads behind the call as it read before'; 0 by the template 'total and deterministic' (their statements: Qxb6600718aModsTotals.lean).
  GIVEN WITH THE SEED: the statements are not yours to turn. If you find one false, say at which input.
  Laid BY PROGRAM, IN A SANDBOX (cutbox-rows.mjs): the forced cells as the released guide's own fill.sh prints them over the translation 39b93295d8628e5a… (all of the seat's roots in one cut). By AI agents, Wed Nov 11 2026. No macro, syntax, notation, axiom, sorry.
-/
import Derived.Test.Qxb6600718aModsChecked
import GoSem.Claim
import GoSem.ClaimJoined
import GoSem.ClaimMapViews
import Derived.JoinedTies
import Derived.KernelRfl
namespace Go.Proofs.Qxb6600718aMods
/- THE CELL 'sum', in the pinned program and in every row, IS THE sha256 OF THE DUMP (.gsa) THAT Qxb6600718aModsProg.lean LOADS. Nothing in Lean hashes anything: it is a label: what it is worth is what the hold of that sum in a sandbox is worth. -/
noncomputable def Trym.pinned : Pinned := { name := "qxb6600718amods", sum := "39b93295d8628e5a3f1d3ed86173eec1d5713fa619e95cdb83b21ba226dba530", checked := Trym.checked }
namespace Rows
def none {H : Type} : Left H := { results := [], args := [] }

/-- 'zzlaws_pkg_schema_b1.FnDecimalStringPlaceValues': WHATEVER THE INPUT: true; the input reads as it did. -/
def fnDecimalStringPlaceValuesSpec : ChangeSpec := { name := "fnDecimalStringPlaceValues", fn := fun _ => fun
  | [d1, d2, d3] => { results := [.lit (.bool true)], args := [d1, d2, d3] }
  | _ => none }
def fnDecimalStringPlaceValuesRow : OpenClaim := { program := "qxb6600718amods", sum := "39b93295d8628e5a3f1d3ed86173eec1d5713fa619e95cdb83b21ba226dba530", func := "example.com/facade/facade/zzlaws_pkg_schema_b1.FnDecimalStringPlaceValues", spec := "fnDecimalStringPlaceValues", inPlace := ["internal/abi.NoEscape", "internal/bytealg.MakeNoZero"], make := .lifted ["publicsums"], apart := false }
def FnDecimalStringPlaceValuesSaid : Prop := fnDecimalStringPlaceValuesRow.holds Trym.pinned (OpenSpec.ofChange fnDecimalStringPlaceValuesSpec)

/-- ITS FALSE NEIGHBOUR: 'it returns false'. Refute it at one input. -/
def fnDecimalStringPlaceValuesWrong : ChangeSpec := { name := "fnDecimalStringPlaceValues", fn := fun _ => fun
  | [d1, d2, d3] => { results := [.lit (.bool false)], args := [d1, d2, d3] }
  | _ => none }
def FnDecimalStringPlaceValuesWrongFalsely : Prop := fnDecimalStringPlaceValuesRow.holds Trym.pinned (OpenSpec.ofChange fnDecimalStringPlaceValuesWrong)

/-- 'zzlaws_pkg_schema_b1.FnDecimalStringReadsBack': WHATEVER THE INPUT: true; the input reads as it did. -/
def fnDecimalStringReadsBackSpec : ChangeSpec := { name := "fnDecimalStringReadsBack", fn := fun _ => fun
  | [d1, d2, d3] => { results := [.lit (.bool true)], args := [d1, d2, d3] }
  | _ => none }
def fnDecimalStringReadsBackRow : OpenClaim := { program := "qxb6600718amods", sum := "39b93295d8628e5a3f1d3ed86173eec1d5713fa619e95cdb83b21ba226dba530", func := "example.com/facade/facade/zzlaws_pkg_schema_b1.FnDecimalStringReadsBack", spec := "fnDecimalStringReadsBack", inPlace := ["internal/abi.NoEscape", "internal/bytealg.MakeNoZero"], make := .lifted ["publicsums"], apart := false }
def FnDecimalStringReadsBackSaid : Prop := fnDecimalStringReadsBackRow.holds Trym.pinned (OpenSpec.ofChange fnDecimalStringReadsBackSpec)

/-- ITS FALSE NEIGHBOUR: 'it returns false'. Refute it at one input. -/
def fnDecimalStringReadsBackWrong : ChangeSpec := { name := "fnDecimalStringReadsBack", fn := fun _ => fun
  | [d1, d2, d3] => { results := [.lit (.bool false)], args := [d1, d2, d3] }
  | _ => none }
def FnDecimalStringReadsBackWrongFalsely : Prop := fnDecimalStringReadsBackRow.holds Trym.pinned (OpenSpec.ofChange fnDecimalStringReadsBackWrong)

/-- 'zzlaws_pkg_schema_b1.FnDecimalStringSignIsAPrefix': WHATEVER THE INPUT: true; the input reads as it did. -/
def fnDecimalStringSignIsAPrefixSpec : ChangeSpec := { name := "fnDecimalStringSignIsAPrefix", fn := fun _ => fun
  | [d1, d2] => { results := [.lit (.bool true)], args := [d1, d2] }
  | _ => none }
def fnDecimalStringSignIsAPrefixRow : OpenClaim := { program := "qxb6600718amods", sum := "39b93295d8628e5a3f1d3ed86173eec1d5713fa619e95cdb83b21ba226dba530", func := "example.com/facade/facade/zzlaws_pkg_schema_b1.FnDecimalStringSignIsAPrefix", spec := "fnDecimalStringSignIsAPrefix", inPlace := ["internal/abi.NoEscape", "internal/bytealg.MakeNoZero"], make := .lifted ["publicsums"], apart := false }
def FnDecimalStringSignIsAPrefixSaid : Prop := fnDecimalStringSignIsAPrefixRow.holds Trym.pinned (OpenSpec.ofChange fnDecimalStringSignIsAPrefixSpec)

/-- ITS FALSE NEIGHBOUR: 'it returns false'. Refute it at one input. -/
def fnDecimalStringSignIsAPrefixWrong : ChangeSpec := { name := "fnDecimalStringSignIsAPrefix", fn := fun _ => fun
  | [d1, d2] => { results := [.lit (.bool false)], args := [d1, d2] }
  | _ => none }
def FnDecimalStringSignIsAPrefixWrongFalsely : Prop := fnDecimalStringSignIsAPrefixRow.holds Trym.pinned (OpenSpec.ofChange fnDecimalStringSignIsAPrefixWrong)

/-- 'zzlaws_pkg_schema_b1.FnArticleHangsOnFirstByteAlone': WHATEVER THE INPUT: true; the input reads as it did. -/
def fnArticleHangsOnFirstByteAloneSpec : ChangeSpec := { name := "fnArticleHangsOnFirstByteAlone", fn := fun _ => fun
  | [d1, d2] => { results := [.lit (.bool true)], args := [d1, d2] }
  | _ => none }
def fnArticleHangsOnFirstByteAloneRow : OpenClaim := { program := "qxb6600718amods", sum := "39b93295d8628e5a3f1d3ed86173eec1d5713fa619e95cdb83b21ba226dba530", func := "example.com/facade/facade/zzlaws_pkg_schema_b1.FnArticleHangsOnFirstByteAlone", spec := "fnArticleHangsOnFirstByteAlone", inPlace := ["internal/bytealg.IndexByteString"], make := .lifted ["publicsums"], apart := false }
def FnArticleHangsOnFirstByteAloneSaid : Prop := fnArticleHangsOnFirstByteAloneRow.holds Trym.pinned (OpenSpec.ofChange fnArticleHangsOnFirstByteAloneSpec)

/-- ITS FALSE NEIGHBOUR: 'it returns false'. Refute it at one input. -/
def fnArticleHangsOnFirstByteAloneWrong : ChangeSpec := { name := "fnArticleHangsOnFirstByteAlone", fn := fun _ => fun
  | [d1, d2] => { results := [.lit (.bool false)], args := [d1, d2] }
  | _ => none }
def FnArticleHangsOnFirstByteAloneWrongFalsely : Prop := fnArticleHangsOnFirstByteAloneRow.holds Trym.pinned (OpenSpec.ofChange fnArticleHangsOnFirstByteAloneWrong)

end Rows
end Go.Proofs.Qxb6600718aMods
