/-
  No cell of these rows narrows 'for every input' (looked for: loops, veiled, ifaces, maps, wideKeys, modest, calm, conditions, laid).
  DERIVED. THE GIVEN ROWS OF THIS SEAT. 4 by the template 'for every input the law returns true; each argument reads behind the call as it read before'; 0 by the template 'total and deterministic' (their statements: Qxb6003782aTotals.lean).
  GIVEN WITH THE SEED: the statements are not yours to turn. If you find one false, say at which input.
  Laid BY PROGRAM, IN A SANDBOX (cutbox-rows.mjs): the forced cells as the released guide's own fill.sh prints them over the translation 20705c8b5ad11bd3… (all of the seat's roots in one cut). By AI agents, Wed Nov 11 2026. No macro, syntax, notation, axiom, sorry.
-/
import Derived.Test.Qxb6003782aChecked
import GoSem.Claim
import GoSem.ClaimJoined
import GoSem.ClaimMapViews
import Derived.JoinedTies
import Derived.KernelRfl
namespace Go.Proofs.Qxb6003782a
/- THE CELL 'sum', in the pinned program and in every row, IS THE sha256 OF THE DUMP (.gsa) THAT Qxb6003782aProg.lean LOADS. Nothing in Lean hashes anything: it is a label: what it is worth is what the hold of that sum in a sandbox is worth. -/
noncomputable def Try.pinned : Pinned := { name := "qxb6003782a", sum := "20705c8b5ad11bd30c31655efdc8dbdc1b79dac6499b6ee12e3a7f5008e09ee1", checked := Try.checked }
namespace Rows
def none {H : Type} : Left H := { results := [], args := [] }

/-- 'zzlaws_root_g2.FnReadToIsWhatTheScanOrderPassed': WHATEVER THE INPUT: true; the input reads as it did. -/
def fnReadToIsWhatTheScanOrderPassedSpec : ChangeSpec := { name := "fnReadToIsWhatTheScanOrderPassed", fn := fun _ => fun
  | [d1, d2, d3, d4, d5, d6, d7] => { results := [.lit (.bool true)], args := [d1, d2, d3, d4, d5, d6, d7] }
  | _ => none }
def fnReadToIsWhatTheScanOrderPassedRow : OpenClaim := { program := "qxb6003782a", sum := "20705c8b5ad11bd30c31655efdc8dbdc1b79dac6499b6ee12e3a7f5008e09ee1", func := "example.com/sanguine/sanguine/zzlaws_root_g2.FnReadToIsWhatTheScanOrderPassed", spec := "fnReadToIsWhatTheScanOrderPassed", apart := false }
def FnReadToIsWhatTheScanOrderPassedSaid : Prop := fnReadToIsWhatTheScanOrderPassedRow.holds Try.pinned (OpenSpec.ofChange fnReadToIsWhatTheScanOrderPassedSpec)

/-- ITS FALSE NEIGHBOUR: 'it returns false'. Refute it at one input. -/
def fnReadToIsWhatTheScanOrderPassedWrong : ChangeSpec := { name := "fnReadToIsWhatTheScanOrderPassed", fn := fun _ => fun
  | [d1, d2, d3, d4, d5, d6, d7] => { results := [.lit (.bool false)], args := [d1, d2, d3, d4, d5, d6, d7] }
  | _ => none }
def FnReadToIsWhatTheScanOrderPassedWrongFalsely : Prop := fnReadToIsWhatTheScanOrderPassedRow.holds Try.pinned (OpenSpec.ofChange fnReadToIsWhatTheScanOrderPassedWrong)

/-- 'zzlaws_root_g2.FnCopiesAreExactAndApart': WHATEVER THE INPUT: true; the input reads as it did. -/
def fnCopiesAreExactAndApartSpec : ChangeSpec := { name := "fnCopiesAreExactAndApart", fn := fun _ => fun
  | [d1, d2] => { results := [.lit (.bool true)], args := [d1, d2] }
  | _ => none }
def fnCopiesAreExactAndApartRow : OpenClaim := { program := "qxb6003782a", sum := "20705c8b5ad11bd30c31655efdc8dbdc1b79dac6499b6ee12e3a7f5008e09ee1", func := "example.com/sanguine/sanguine/zzlaws_root_g2.FnCopiesAreExactAndApart", spec := "fnCopiesAreExactAndApart", apart := false }
def FnCopiesAreExactAndApartSaid : Prop := fnCopiesAreExactAndApartRow.holds Try.pinned (OpenSpec.ofChange fnCopiesAreExactAndApartSpec)

/-- ITS FALSE NEIGHBOUR: 'it returns false'. Refute it at one input. -/
def fnCopiesAreExactAndApartWrong : ChangeSpec := { name := "fnCopiesAreExactAndApart", fn := fun _ => fun
  | [d1, d2] => { results := [.lit (.bool false)], args := [d1, d2] }
  | _ => none }
def FnCopiesAreExactAndApartWrongFalsely : Prop := fnCopiesAreExactAndApartRow.holds Try.pinned (OpenSpec.ofChange fnCopiesAreExactAndApartWrong)

/-- 'zzlaws_root_g2.FnJoinedHoldsExactlyTheKeysOfBoth': WHATEVER THE INPUT: true; the input reads as it did. -/
def fnJoinedHoldsExactlyTheKeysOfBothSpec : ChangeSpec := { name := "fnJoinedHoldsExactlyTheKeysOfBoth", fn := fun _ => fun
  | [d1, d2, d3, d4, d5, d6, d7, d8, d9] => { results := [.lit (.bool true)], args := [d1, d2, d3, d4, d5, d6, d7, d8, d9] }
  | _ => none }
def fnJoinedHoldsExactlyTheKeysOfBothRow : OpenClaim := { program := "qxb6003782a", sum := "20705c8b5ad11bd30c31655efdc8dbdc1b79dac6499b6ee12e3a7f5008e09ee1", func := "example.com/sanguine/sanguine/zzlaws_root_g2.FnJoinedHoldsExactlyTheKeysOfBoth", spec := "fnJoinedHoldsExactlyTheKeysOfBoth", apart := false }
def FnJoinedHoldsExactlyTheKeysOfBothSaid : Prop := fnJoinedHoldsExactlyTheKeysOfBothRow.holds Try.pinned (OpenSpec.ofChange fnJoinedHoldsExactlyTheKeysOfBothSpec)

/-- ITS FALSE NEIGHBOUR: 'it returns false'. Refute it at one input. -/
def fnJoinedHoldsExactlyTheKeysOfBothWrong : ChangeSpec := { name := "fnJoinedHoldsExactlyTheKeysOfBoth", fn := fun _ => fun
  | [d1, d2, d3, d4, d5, d6, d7, d8, d9] => { results := [.lit (.bool false)], args := [d1, d2, d3, d4, d5, d6, d7, d8, d9] }
  | _ => none }
def FnJoinedHoldsExactlyTheKeysOfBothWrongFalsely : Prop := fnJoinedHoldsExactlyTheKeysOfBothRow.holds Try.pinned (OpenSpec.ofChange fnJoinedHoldsExactlyTheKeysOfBothWrong)

/-- 'zzlaws_internal_disk_g1.FnReadHeadInvertsAppendHead': WHATEVER THE INPUT: true; the input reads as it did. -/
def fnReadHeadInvertsAppendHeadSpec : ChangeSpec := { name := "fnReadHeadInvertsAppendHead", fn := fun _ => fun
  | [d1, d2, d3, d4] => { results := [.lit (.bool true)], args := [d1, d2, d3, d4] }
  | _ => none }
def fnReadHeadInvertsAppendHeadRow : OpenClaim := { program := "qxb6003782a", sum := "20705c8b5ad11bd30c31655efdc8dbdc1b79dac6499b6ee12e3a7f5008e09ee1", func := "example.com/sanguine/sanguine/zzlaws_internal_disk_g1.FnReadHeadInvertsAppendHead", spec := "fnReadHeadInvertsAppendHead", apart := false }
def FnReadHeadInvertsAppendHeadSaid : Prop := fnReadHeadInvertsAppendHeadRow.holds Try.pinned (OpenSpec.ofChange fnReadHeadInvertsAppendHeadSpec)

/-- ITS FALSE NEIGHBOUR: 'it returns false'. Refute it at one input. -/
def fnReadHeadInvertsAppendHeadWrong : ChangeSpec := { name := "fnReadHeadInvertsAppendHead", fn := fun _ => fun
  | [d1, d2, d3, d4] => { results := [.lit (.bool false)], args := [d1, d2, d3, d4] }
  | _ => none }
def FnReadHeadInvertsAppendHeadWrongFalsely : Prop := fnReadHeadInvertsAppendHeadRow.holds Try.pinned (OpenSpec.ofChange fnReadHeadInvertsAppendHeadWrong)

end Rows
end Go.Proofs.Qxb6003782a
