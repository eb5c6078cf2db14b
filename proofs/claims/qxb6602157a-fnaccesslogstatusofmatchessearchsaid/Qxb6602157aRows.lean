/-
  No cell of these rows narrows 'for every input' (looked for: loops, veiled, ifaces, maps, wideKeys, modest, calm, conditions, laid).
  DERIVED. THE GIVEN ROWS OF THIS SEAT. 7 by the template 'for every input the law returns true; each argument reads behind the call as it read before'; 0 by the template 'total and deterministic' (their statements: Qxb6602157aTotals.lean).
  GIVEN WITH THE SEED: the statements are not yours to turn. If you find one false, say at which input.
  Laid BY PROGRAM, IN A SANDBOX (cutbox-rows.mjs): the forced cells as the released guide's own fill.sh prints them over the translation ab13ece416a3df53… (all of the seat's roots in one cut). By AI agents, Wed Nov 11 2026. No macro, syntax, notation, axiom, sorry.
-/
import Derived.Test.Qxb6602157aChecked
import GoSem.Claim
import GoSem.ClaimJoined
import GoSem.ClaimMapViews
import Derived.JoinedTies
import Derived.KernelRfl
namespace Go.Proofs.Qxb6602157a
/- THE CELL 'sum', in the pinned program and in every row, IS THE sha256 OF THE DUMP (.gsa) THAT Qxb6602157aProg.lean LOADS. Nothing in Lean hashes anything: it is a label: what it is worth is what the hold of that sum in a sandbox is worth. -/
noncomputable def Try.pinned : Pinned := { name := "qxb6602157a", sum := "ab13ece416a3df53b1d85171b7e7a4702136ce50ee50c73ae2f8da9cc105238a", checked := Try.checked }
namespace Rows
def none {H : Type} : Left H := { results := [], args := [] }

/-- 'zzlaws_internal_accesslog_b1.FnAccesslogStatusOfMatchesSearch': WHATEVER THE INPUT: true; the input reads as it did. -/
def fnAccesslogStatusOfMatchesSearchSpec : ChangeSpec := { name := "fnAccesslogStatusOfMatchesSearch", fn := fun _ => fun
  | [d] => { results := [.lit (.bool true)], args := [d] }
  | _ => none }
def fnAccesslogStatusOfMatchesSearchRow : OpenClaim := { program := "qxb6602157a", sum := "ab13ece416a3df53b1d85171b7e7a4702136ce50ee50c73ae2f8da9cc105238a", func := "example.com/mete-by-key/mete-by-key/zzlaws_internal_accesslog_b1.FnAccesslogStatusOfMatchesSearch", spec := "fnAccesslogStatusOfMatchesSearch", apart := false }
def FnAccesslogStatusOfMatchesSearchSaid : Prop := fnAccesslogStatusOfMatchesSearchRow.holds Try.pinned (OpenSpec.ofChange fnAccesslogStatusOfMatchesSearchSpec)

/-- ITS FALSE NEIGHBOUR: 'it returns false'. Refute it at one input. -/
def fnAccesslogStatusOfMatchesSearchWrong : ChangeSpec := { name := "fnAccesslogStatusOfMatchesSearch", fn := fun _ => fun
  | [d] => { results := [.lit (.bool false)], args := [d] }
  | _ => none }
def FnAccesslogStatusOfMatchesSearchWrongFalsely : Prop := fnAccesslogStatusOfMatchesSearchRow.holds Try.pinned (OpenSpec.ofChange fnAccesslogStatusOfMatchesSearchWrong)

/-- 'zzlaws_internal_accesslog_b1.FnAccesslogStatusOfReadsDecimal': WHATEVER THE INPUT: true; the input reads as it did. -/
def fnAccesslogStatusOfReadsDecimalSpec : ChangeSpec := { name := "fnAccesslogStatusOfReadsDecimal", fn := fun _ => fun
  | [d] => { results := [.lit (.bool true)], args := [d] }
  | _ => none }
def fnAccesslogStatusOfReadsDecimalRow : OpenClaim := { program := "qxb6602157a", sum := "ab13ece416a3df53b1d85171b7e7a4702136ce50ee50c73ae2f8da9cc105238a", func := "example.com/mete-by-key/mete-by-key/zzlaws_internal_accesslog_b1.FnAccesslogStatusOfReadsDecimal", spec := "fnAccesslogStatusOfReadsDecimal", apart := false }
def FnAccesslogStatusOfReadsDecimalSaid : Prop := fnAccesslogStatusOfReadsDecimalRow.holds Try.pinned (OpenSpec.ofChange fnAccesslogStatusOfReadsDecimalSpec)

/-- ITS FALSE NEIGHBOUR: 'it returns false'. Refute it at one input. -/
def fnAccesslogStatusOfReadsDecimalWrong : ChangeSpec := { name := "fnAccesslogStatusOfReadsDecimal", fn := fun _ => fun
  | [d] => { results := [.lit (.bool false)], args := [d] }
  | _ => none }
def FnAccesslogStatusOfReadsDecimalWrongFalsely : Prop := fnAccesslogStatusOfReadsDecimalRow.holds Try.pinned (OpenSpec.ofChange fnAccesslogStatusOfReadsDecimalWrong)

/-- 'zzlaws_internal_accesslog_b1.FnAccesslogStatusOfOneTextACode': WHATEVER THE INPUT: true; the input reads as it did. -/
def fnAccesslogStatusOfOneTextACodeSpec : ChangeSpec := { name := "fnAccesslogStatusOfOneTextACode", fn := fun _ => fun
  | [d1, d2] => { results := [.lit (.bool true)], args := [d1, d2] }
  | _ => none }
def fnAccesslogStatusOfOneTextACodeRow : OpenClaim := { program := "qxb6602157a", sum := "ab13ece416a3df53b1d85171b7e7a4702136ce50ee50c73ae2f8da9cc105238a", func := "example.com/mete-by-key/mete-by-key/zzlaws_internal_accesslog_b1.FnAccesslogStatusOfOneTextACode", spec := "fnAccesslogStatusOfOneTextACode", apart := false }
def FnAccesslogStatusOfOneTextACodeSaid : Prop := fnAccesslogStatusOfOneTextACodeRow.holds Try.pinned (OpenSpec.ofChange fnAccesslogStatusOfOneTextACodeSpec)

/-- ITS FALSE NEIGHBOUR: 'it returns false'. Refute it at one input. -/
def fnAccesslogStatusOfOneTextACodeWrong : ChangeSpec := { name := "fnAccesslogStatusOfOneTextACode", fn := fun _ => fun
  | [d1, d2] => { results := [.lit (.bool false)], args := [d1, d2] }
  | _ => none }
def FnAccesslogStatusOfOneTextACodeWrongFalsely : Prop := fnAccesslogStatusOfOneTextACodeRow.holds Try.pinned (OpenSpec.ofChange fnAccesslogStatusOfOneTextACodeWrong)

/-- 'zzlaws_internal_accesslog_b1.FnAccesslogTwoDigitsReadsWrittenPair': WHATEVER THE INPUT: true; the input reads as it did. -/
def fnAccesslogTwoDigitsReadsWrittenPairSpec : ChangeSpec := { name := "fnAccesslogTwoDigitsReadsWrittenPair", fn := fun _ => fun
  | [d1, d2, d3] => { results := [.lit (.bool true)], args := [d1, d2, d3] }
  | _ => none }
def fnAccesslogTwoDigitsReadsWrittenPairRow : OpenClaim := { program := "qxb6602157a", sum := "ab13ece416a3df53b1d85171b7e7a4702136ce50ee50c73ae2f8da9cc105238a", func := "example.com/mete-by-key/mete-by-key/zzlaws_internal_accesslog_b1.FnAccesslogTwoDigitsReadsWrittenPair", spec := "fnAccesslogTwoDigitsReadsWrittenPair", apart := false }
def FnAccesslogTwoDigitsReadsWrittenPairSaid : Prop := fnAccesslogTwoDigitsReadsWrittenPairRow.holds Try.pinned (OpenSpec.ofChange fnAccesslogTwoDigitsReadsWrittenPairSpec)

/-- ITS FALSE NEIGHBOUR: 'it returns false'. Refute it at one input. -/
def fnAccesslogTwoDigitsReadsWrittenPairWrong : ChangeSpec := { name := "fnAccesslogTwoDigitsReadsWrittenPair", fn := fun _ => fun
  | [d1, d2, d3] => { results := [.lit (.bool false)], args := [d1, d2, d3] }
  | _ => none }
def FnAccesslogTwoDigitsReadsWrittenPairWrongFalsely : Prop := fnAccesslogTwoDigitsReadsWrittenPairRow.holds Try.pinned (OpenSpec.ofChange fnAccesslogTwoDigitsReadsWrittenPairWrong)

/-- 'zzlaws_internal_accesslog_b1.FnAccesslogEnclosedMatchesScan': WHATEVER THE INPUT: true; the input reads as it did. -/
def fnAccesslogEnclosedMatchesScanSpec : ChangeSpec := { name := "fnAccesslogEnclosedMatchesScan", fn := fun _ => fun
  | [d1, d2, d3, d4] => { results := [.lit (.bool true)], args := [d1, d2, d3, d4] }
  | _ => none }
def fnAccesslogEnclosedMatchesScanRow : OpenClaim := { program := "qxb6602157a", sum := "ab13ece416a3df53b1d85171b7e7a4702136ce50ee50c73ae2f8da9cc105238a", func := "example.com/mete-by-key/mete-by-key/zzlaws_internal_accesslog_b1.FnAccesslogEnclosedMatchesScan", spec := "fnAccesslogEnclosedMatchesScan", inPlace := ["internal/bytealg.IndexByteString"], apart := false }
def FnAccesslogEnclosedMatchesScanSaid : Prop := fnAccesslogEnclosedMatchesScanRow.holds Try.pinned (OpenSpec.ofChange fnAccesslogEnclosedMatchesScanSpec)

/-- ITS FALSE NEIGHBOUR: 'it returns false'. Refute it at one input. -/
def fnAccesslogEnclosedMatchesScanWrong : ChangeSpec := { name := "fnAccesslogEnclosedMatchesScan", fn := fun _ => fun
  | [d1, d2, d3, d4] => { results := [.lit (.bool false)], args := [d1, d2, d3, d4] }
  | _ => none }
def FnAccesslogEnclosedMatchesScanWrongFalsely : Prop := fnAccesslogEnclosedMatchesScanRow.holds Try.pinned (OpenSpec.ofChange fnAccesslogEnclosedMatchesScanWrong)

/-- 'zzlaws_internal_accesslog_b1.FnAccesslogEnclosedReadsAnEscapedField': WHATEVER THE INPUT: true; the input reads as it did. -/
def fnAccesslogEnclosedReadsAnEscapedFieldSpec : ChangeSpec := { name := "fnAccesslogEnclosedReadsAnEscapedField", fn := fun _ => fun
  | [d1, d2, d3, d4, d5] => { results := [.lit (.bool true)], args := [d1, d2, d3, d4, d5] }
  | _ => none }
def fnAccesslogEnclosedReadsAnEscapedFieldRow : OpenClaim := { program := "qxb6602157a", sum := "ab13ece416a3df53b1d85171b7e7a4702136ce50ee50c73ae2f8da9cc105238a", func := "example.com/mete-by-key/mete-by-key/zzlaws_internal_accesslog_b1.FnAccesslogEnclosedReadsAnEscapedField", spec := "fnAccesslogEnclosedReadsAnEscapedField", inPlace := ["internal/bytealg.IndexByteString"], apart := false }
def FnAccesslogEnclosedReadsAnEscapedFieldSaid : Prop := fnAccesslogEnclosedReadsAnEscapedFieldRow.holds Try.pinned (OpenSpec.ofChange fnAccesslogEnclosedReadsAnEscapedFieldSpec)

/-- ITS FALSE NEIGHBOUR: 'it returns false'. Refute it at one input. -/
def fnAccesslogEnclosedReadsAnEscapedFieldWrong : ChangeSpec := { name := "fnAccesslogEnclosedReadsAnEscapedField", fn := fun _ => fun
  | [d1, d2, d3, d4, d5] => { results := [.lit (.bool false)], args := [d1, d2, d3, d4, d5] }
  | _ => none }
def FnAccesslogEnclosedReadsAnEscapedFieldWrongFalsely : Prop := fnAccesslogEnclosedReadsAnEscapedFieldRow.holds Try.pinned (OpenSpec.ofChange fnAccesslogEnclosedReadsAnEscapedFieldWrong)

/-- 'zzlaws_internal_accesslog_b1.FnAccesslogEnclosedIgnoresWhatFollows': WHATEVER THE INPUT: true; the input reads as it did. -/
def fnAccesslogEnclosedIgnoresWhatFollowsSpec : ChangeSpec := { name := "fnAccesslogEnclosedIgnoresWhatFollows", fn := fun _ => fun
  | [d1, d2, d3, d4, d5] => { results := [.lit (.bool true)], args := [d1, d2, d3, d4, d5] }
  | _ => none }
def fnAccesslogEnclosedIgnoresWhatFollowsRow : OpenClaim := { program := "qxb6602157a", sum := "ab13ece416a3df53b1d85171b7e7a4702136ce50ee50c73ae2f8da9cc105238a", func := "example.com/mete-by-key/mete-by-key/zzlaws_internal_accesslog_b1.FnAccesslogEnclosedIgnoresWhatFollows", spec := "fnAccesslogEnclosedIgnoresWhatFollows", inPlace := ["internal/bytealg.IndexByteString"], apart := false }
def FnAccesslogEnclosedIgnoresWhatFollowsSaid : Prop := fnAccesslogEnclosedIgnoresWhatFollowsRow.holds Try.pinned (OpenSpec.ofChange fnAccesslogEnclosedIgnoresWhatFollowsSpec)

/-- ITS FALSE NEIGHBOUR: 'it returns false'. Refute it at one input. -/
def fnAccesslogEnclosedIgnoresWhatFollowsWrong : ChangeSpec := { name := "fnAccesslogEnclosedIgnoresWhatFollows", fn := fun _ => fun
  | [d1, d2, d3, d4, d5] => { results := [.lit (.bool false)], args := [d1, d2, d3, d4, d5] }
  | _ => none }
def FnAccesslogEnclosedIgnoresWhatFollowsWrongFalsely : Prop := fnAccesslogEnclosedIgnoresWhatFollowsRow.holds Try.pinned (OpenSpec.ofChange fnAccesslogEnclosedIgnoresWhatFollowsWrong)

end Rows
end Go.Proofs.Qxb6602157a
