/-
  No cell of these rows narrows 'for every input' (looked for: loops, veiled, ifaces, maps, wideKeys, modest, calm, conditions, laid).
  DERIVED. THE GIVEN ROWS OF THIS SEAT. 7 by the template 'for every input the law returns true; each argument reads behind the call as it read before'; 0 by the template 'total and deterministic' (their statements: Qxb6601715aTotals.lean).
  GIVEN WITH THE SEED: the statements are not yours to turn. If you find one false, say at which input.
  Laid BY PROGRAM, IN A SANDBOX (cutbox-rows.mjs): the forced cells as the released guide's own fill.sh prints them over the translation 28d8e97826f63362… (all of the seat's roots in one cut). By AI agents, Wed Nov 11 2026. No macro, syntax, notation, axiom, sorry.
-/
import Derived.Test.Qxb6601715aChecked
import GoSem.Claim
import GoSem.ClaimJoined
import GoSem.ClaimMapViews
import Derived.JoinedTies
import Derived.KernelRfl
namespace Go.Proofs.Qxb6601715a
/- THE CELL 'sum', in the pinned program and in every row, IS THE sha256 OF THE DUMP (.gsa) THAT Qxb6601715aProg.lean LOADS. Nothing in Lean hashes anything: it is a label: what it is worth is what the hold of that sum in a sandbox is worth. -/
noncomputable def Try.pinned : Pinned := { name := "qxb6601715a", sum := "28d8e97826f6336297c31f5b8b38ee2ec155d1737074c9774dd94cd579347714", checked := Try.checked }
namespace Rows
def none {H : Type} : Left H := { results := [], args := [] }

/-- 'zzlaws_root_b1.FnAddOneClosedForm': WHATEVER THE INPUT: true; the input reads as it did. -/
def fnAddOneClosedFormSpec : ChangeSpec := { name := "fnAddOneClosedForm", fn := fun _ => fun
  | [d] => { results := [.lit (.bool true)], args := [d] }
  | _ => none }
def fnAddOneClosedFormRow : OpenClaim := { program := "qxb6601715a", sum := "28d8e97826f6336297c31f5b8b38ee2ec155d1737074c9774dd94cd579347714", func := "example.com/versicle/versicle/zzlaws_root_b1.FnAddOneClosedForm", spec := "fnAddOneClosedForm", apart := false }
def FnAddOneClosedFormSaid : Prop := fnAddOneClosedFormRow.holds Try.pinned (OpenSpec.ofChange fnAddOneClosedFormSpec)

/-- ITS FALSE NEIGHBOUR: 'it returns false'. Refute it at one input. -/
def fnAddOneClosedFormWrong : ChangeSpec := { name := "fnAddOneClosedForm", fn := fun _ => fun
  | [d] => { results := [.lit (.bool false)], args := [d] }
  | _ => none }
def FnAddOneClosedFormWrongFalsely : Prop := fnAddOneClosedFormRow.holds Try.pinned (OpenSpec.ofChange fnAddOneClosedFormWrong)

/-- 'zzlaws_root_b1.FnAddOneInverse': WHATEVER THE INPUT: true; the input reads as it did. -/
def fnAddOneInverseSpec : ChangeSpec := { name := "fnAddOneInverse", fn := fun _ => fun
  | [d] => { results := [.lit (.bool true)], args := [d] }
  | _ => none }
def fnAddOneInverseRow : OpenClaim := { program := "qxb6601715a", sum := "28d8e97826f6336297c31f5b8b38ee2ec155d1737074c9774dd94cd579347714", func := "example.com/versicle/versicle/zzlaws_root_b1.FnAddOneInverse", spec := "fnAddOneInverse", apart := false }
def FnAddOneInverseSaid : Prop := fnAddOneInverseRow.holds Try.pinned (OpenSpec.ofChange fnAddOneInverseSpec)

/-- ITS FALSE NEIGHBOUR: 'it returns false'. Refute it at one input. -/
def fnAddOneInverseWrong : ChangeSpec := { name := "fnAddOneInverse", fn := fun _ => fun
  | [d] => { results := [.lit (.bool false)], args := [d] }
  | _ => none }
def FnAddOneInverseWrongFalsely : Prop := fnAddOneInverseRow.holds Try.pinned (OpenSpec.ofChange fnAddOneInverseWrong)

/-- 'zzlaws_root_b1.FnCompareCoreLexicographic': WHATEVER THE INPUT: true; the input reads as it did. -/
def fnCompareCoreLexicographicSpec : ChangeSpec := { name := "fnCompareCoreLexicographic", fn := fun _ => fun
  | [d1, d2, d3, d4, d5, d6] => { results := [.lit (.bool true)], args := [d1, d2, d3, d4, d5, d6] }
  | _ => none }
def fnCompareCoreLexicographicRow : OpenClaim := { program := "qxb6601715a", sum := "28d8e97826f6336297c31f5b8b38ee2ec155d1737074c9774dd94cd579347714", func := "example.com/versicle/versicle/zzlaws_root_b1.FnCompareCoreLexicographic", spec := "fnCompareCoreLexicographic", apart := false }
def FnCompareCoreLexicographicSaid : Prop := fnCompareCoreLexicographicRow.holds Try.pinned (OpenSpec.ofChange fnCompareCoreLexicographicSpec)

/-- ITS FALSE NEIGHBOUR: 'it returns false'. Refute it at one input. -/
def fnCompareCoreLexicographicWrong : ChangeSpec := { name := "fnCompareCoreLexicographic", fn := fun _ => fun
  | [d1, d2, d3, d4, d5, d6] => { results := [.lit (.bool false)], args := [d1, d2, d3, d4, d5, d6] }
  | _ => none }
def FnCompareCoreLexicographicWrongFalsely : Prop := fnCompareCoreLexicographicRow.holds Try.pinned (OpenSpec.ofChange fnCompareCoreLexicographicWrong)

/-- 'zzlaws_root_b1.FnCompareCoreTotalOrder': WHATEVER THE INPUT: true; the input reads as it did. -/
def fnCompareCoreTotalOrderSpec : ChangeSpec := { name := "fnCompareCoreTotalOrder", fn := fun _ => fun
  | [d1, d2, d3, d4, d5, d6, d7, d8, d9] => { results := [.lit (.bool true)], args := [d1, d2, d3, d4, d5, d6, d7, d8, d9] }
  | _ => none }
def fnCompareCoreTotalOrderRow : OpenClaim := { program := "qxb6601715a", sum := "28d8e97826f6336297c31f5b8b38ee2ec155d1737074c9774dd94cd579347714", func := "example.com/versicle/versicle/zzlaws_root_b1.FnCompareCoreTotalOrder", spec := "fnCompareCoreTotalOrder", apart := false }
def FnCompareCoreTotalOrderSaid : Prop := fnCompareCoreTotalOrderRow.holds Try.pinned (OpenSpec.ofChange fnCompareCoreTotalOrderSpec)

/-- ITS FALSE NEIGHBOUR: 'it returns false'. Refute it at one input. -/
def fnCompareCoreTotalOrderWrong : ChangeSpec := { name := "fnCompareCoreTotalOrder", fn := fun _ => fun
  | [d1, d2, d3, d4, d5, d6, d7, d8, d9] => { results := [.lit (.bool false)], args := [d1, d2, d3, d4, d5, d6, d7, d8, d9] }
  | _ => none }
def FnCompareCoreTotalOrderWrongFalsely : Prop := fnCompareCoreTotalOrderRow.holds Try.pinned (OpenSpec.ofChange fnCompareCoreTotalOrderWrong)

/-- 'zzlaws_root_b1.FnNextPrereleaseModel': WHATEVER THE INPUT: true; the input reads as it did. -/
def fnNextPrereleaseModelSpec : ChangeSpec := { name := "fnNextPrereleaseModel", fn := fun _ => fun
  | [d1, d2] => { results := [.lit (.bool true)], args := [d1, d2] }
  | _ => none }
def fnNextPrereleaseModelRow : OpenClaim := { program := "qxb6601715a", sum := "28d8e97826f6336297c31f5b8b38ee2ec155d1737074c9774dd94cd579347714", func := "example.com/versicle/versicle/zzlaws_root_b1.FnNextPrereleaseModel", spec := "fnNextPrereleaseModel", inPlace := ["internal/bytealg.IndexByteString", "internal/bytealg.IndexString"], named := ["internal/bytealg.MaxLen"], apart := false }
def FnNextPrereleaseModelSaid : Prop := fnNextPrereleaseModelRow.holds Try.pinned (OpenSpec.ofChange fnNextPrereleaseModelSpec)

/-- ITS FALSE NEIGHBOUR: 'it returns false'. Refute it at one input. -/
def fnNextPrereleaseModelWrong : ChangeSpec := { name := "fnNextPrereleaseModel", fn := fun _ => fun
  | [d1, d2] => { results := [.lit (.bool false)], args := [d1, d2] }
  | _ => none }
def FnNextPrereleaseModelWrongFalsely : Prop := fnNextPrereleaseModelRow.holds Try.pinned (OpenSpec.ofChange fnNextPrereleaseModelWrong)

/-- 'zzlaws_root_b1.FnNextPrereleaseAscends': WHATEVER THE INPUT: true; the input reads as it did. -/
def fnNextPrereleaseAscendsSpec : ChangeSpec := { name := "fnNextPrereleaseAscends", fn := fun _ => fun
  | [d1, d2] => { results := [.lit (.bool true)], args := [d1, d2] }
  | _ => none }
def fnNextPrereleaseAscendsRow : OpenClaim := { program := "qxb6601715a", sum := "28d8e97826f6336297c31f5b8b38ee2ec155d1737074c9774dd94cd579347714", func := "example.com/versicle/versicle/zzlaws_root_b1.FnNextPrereleaseAscends", spec := "fnNextPrereleaseAscends", inPlace := ["internal/bytealg.IndexByteString", "internal/bytealg.IndexString"], named := ["internal/bytealg.MaxLen"], apart := false }
def FnNextPrereleaseAscendsSaid : Prop := fnNextPrereleaseAscendsRow.holds Try.pinned (OpenSpec.ofChange fnNextPrereleaseAscendsSpec)

/-- ITS FALSE NEIGHBOUR: 'it returns false'. Refute it at one input. -/
def fnNextPrereleaseAscendsWrong : ChangeSpec := { name := "fnNextPrereleaseAscends", fn := fun _ => fun
  | [d1, d2] => { results := [.lit (.bool false)], args := [d1, d2] }
  | _ => none }
def FnNextPrereleaseAscendsWrongFalsely : Prop := fnNextPrereleaseAscendsRow.holds Try.pinned (OpenSpec.ofChange fnNextPrereleaseAscendsWrong)

/-- 'zzlaws_root_b1.FnNextPrereleaseSeries': WHATEVER THE INPUT: true; the input reads as it did. -/
def fnNextPrereleaseSeriesSpec : ChangeSpec := { name := "fnNextPrereleaseSeries", fn := fun _ => fun
  | [d1, d2] => { results := [.lit (.bool true)], args := [d1, d2] }
  | _ => none }
def fnNextPrereleaseSeriesRow : OpenClaim := { program := "qxb6601715a", sum := "28d8e97826f6336297c31f5b8b38ee2ec155d1737074c9774dd94cd579347714", func := "example.com/versicle/versicle/zzlaws_root_b1.FnNextPrereleaseSeries", spec := "fnNextPrereleaseSeries", inPlace := ["internal/bytealg.IndexByteString", "internal/bytealg.IndexString"], named := ["internal/bytealg.MaxLen"], apart := false }
def FnNextPrereleaseSeriesSaid : Prop := fnNextPrereleaseSeriesRow.holds Try.pinned (OpenSpec.ofChange fnNextPrereleaseSeriesSpec)

/-- ITS FALSE NEIGHBOUR: 'it returns false'. Refute it at one input. -/
def fnNextPrereleaseSeriesWrong : ChangeSpec := { name := "fnNextPrereleaseSeries", fn := fun _ => fun
  | [d1, d2] => { results := [.lit (.bool false)], args := [d1, d2] }
  | _ => none }
def FnNextPrereleaseSeriesWrongFalsely : Prop := fnNextPrereleaseSeriesRow.holds Try.pinned (OpenSpec.ofChange fnNextPrereleaseSeriesWrong)

end Rows
end Go.Proofs.Qxb6601715a
