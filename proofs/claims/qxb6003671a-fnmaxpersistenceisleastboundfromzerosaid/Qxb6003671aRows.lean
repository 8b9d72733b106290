/-
  No cell of these rows narrows 'for every input' (looked for: loops, veiled, ifaces, maps, wideKeys, modest, calm, conditions, laid).
  DERIVED. THE GIVEN ROWS OF THIS SEAT. 4 by the template 'for every input the law returns true; each argument reads behind the call as it read before'; 0 by the template 'total and deterministic' (their statements: Qxb6003671aTotals.lean).
  GIVEN WITH THE SEED: the statements are not yours to turn. If you find one false, say at which input.
  Laid BY PROGRAM, IN A SANDBOX (cutbox-rows.mjs): the forced cells as the released guide's own fill.sh prints them over the translation e227782e6a4a3377… (all of the seat's roots in one cut). By AI agents, Wed Nov 11 2026. No macro, syntax, notation, axiom, sorry.
-/
import Derived.Test.Qxb6003671aChecked
import GoSem.Claim
import GoSem.ClaimJoined
import GoSem.ClaimMapViews
import Derived.JoinedTies
import Derived.KernelRfl
namespace Go.Proofs.Qxb6003671a
/- THE CELL 'sum', in the pinned program and in every row, IS THE sha256 OF THE DUMP (.gsa) THAT Qxb6003671aProg.lean LOADS. Nothing in Lean hashes anything: it is a label: what it is worth is what the hold of that sum in a sandbox is worth. -/
noncomputable def Try.pinned : Pinned := { name := "qxb6003671a", sum := "e227782e6a4a3377c19d7d3b89385470b05ad1154f11a734b97584448d82a76d", checked := Try.checked }
namespace Rows
def none {H : Type} : Left H := { results := [], args := [] }

/-- 'zzlaws_internal_sim_g2.FnFalseCountsMarkedVictimsAdditively': WHATEVER THE INPUT: true; the input reads as it did. -/
def fnFalseCountsMarkedVictimsAdditivelySpec : ChangeSpec := { name := "fnFalseCountsMarkedVictimsAdditively", fn := fun _ => fun
  | [d1, d2, d3] => { results := [.lit (.bool true)], args := [d1, d2, d3] }
  | _ => none }
def fnFalseCountsMarkedVictimsAdditivelyRow : OpenClaim := { program := "qxb6003671a", sum := "e227782e6a4a3377c19d7d3b89385470b05ad1154f11a734b97584448d82a76d", func := "example.com/knotwise/knotwise/zzlaws_internal_sim_g2.FnFalseCountsMarkedVictimsAdditively", spec := "fnFalseCountsMarkedVictimsAdditively", apart := false }
def FnFalseCountsMarkedVictimsAdditivelySaid : Prop := fnFalseCountsMarkedVictimsAdditivelyRow.holds Try.pinned (OpenSpec.ofChange fnFalseCountsMarkedVictimsAdditivelySpec)

/-- ITS FALSE NEIGHBOUR: 'it returns false'. Refute it at one input. -/
def fnFalseCountsMarkedVictimsAdditivelyWrong : ChangeSpec := { name := "fnFalseCountsMarkedVictimsAdditively", fn := fun _ => fun
  | [d1, d2, d3] => { results := [.lit (.bool false)], args := [d1, d2, d3] }
  | _ => none }
def FnFalseCountsMarkedVictimsAdditivelyWrongFalsely : Prop := fnFalseCountsMarkedVictimsAdditivelyRow.holds Try.pinned (OpenSpec.ofChange fnFalseCountsMarkedVictimsAdditivelyWrong)

/-- 'zzlaws_internal_sim_g2.FnMaxPersistenceIsLeastBoundFromZero': WHATEVER THE INPUT: true; the input reads as it did. -/
def fnMaxPersistenceIsLeastBoundFromZeroSpec : ChangeSpec := { name := "fnMaxPersistenceIsLeastBoundFromZero", fn := fun _ => fun
  | [d1, d2, d3] => { results := [.lit (.bool true)], args := [d1, d2, d3] }
  | _ => none }
def fnMaxPersistenceIsLeastBoundFromZeroRow : OpenClaim := { program := "qxb6003671a", sum := "e227782e6a4a3377c19d7d3b89385470b05ad1154f11a734b97584448d82a76d", func := "example.com/knotwise/knotwise/zzlaws_internal_sim_g2.FnMaxPersistenceIsLeastBoundFromZero", spec := "fnMaxPersistenceIsLeastBoundFromZero", apart := false }
def FnMaxPersistenceIsLeastBoundFromZeroSaid : Prop := fnMaxPersistenceIsLeastBoundFromZeroRow.holds Try.pinned (OpenSpec.ofChange fnMaxPersistenceIsLeastBoundFromZeroSpec)

/-- ITS FALSE NEIGHBOUR: 'it returns false'. Refute it at one input. -/
def fnMaxPersistenceIsLeastBoundFromZeroWrong : ChangeSpec := { name := "fnMaxPersistenceIsLeastBoundFromZero", fn := fun _ => fun
  | [d1, d2, d3] => { results := [.lit (.bool false)], args := [d1, d2, d3] }
  | _ => none }
def FnMaxPersistenceIsLeastBoundFromZeroWrongFalsely : Prop := fnMaxPersistenceIsLeastBoundFromZeroRow.holds Try.pinned (OpenSpec.ofChange fnMaxPersistenceIsLeastBoundFromZeroWrong)

/-- 'zzlaws_internal_site_g1.FnRoomLimits': WHATEVER THE INPUT: true; the input reads as it did. -/
def fnRoomLimitsSpec : ChangeSpec := { name := "fnRoomLimits", fn := fun _ => fun
  | [d1, d2] => { results := [.lit (.bool true)], args := [d1, d2] }
  | _ => none }
def fnRoomLimitsRow : OpenClaim := { program := "qxb6003671a", sum := "e227782e6a4a3377c19d7d3b89385470b05ad1154f11a734b97584448d82a76d", func := "example.com/knotwise/knotwise/zzlaws_internal_site_g1.FnRoomLimits", spec := "fnRoomLimits", apart := false }
def FnRoomLimitsSaid : Prop := fnRoomLimitsRow.holds Try.pinned (OpenSpec.ofChange fnRoomLimitsSpec)

/-- ITS FALSE NEIGHBOUR: 'it returns false'. Refute it at one input. -/
def fnRoomLimitsWrong : ChangeSpec := { name := "fnRoomLimits", fn := fun _ => fun
  | [d1, d2] => { results := [.lit (.bool false)], args := [d1, d2] }
  | _ => none }
def FnRoomLimitsWrongFalsely : Prop := fnRoomLimitsRow.holds Try.pinned (OpenSpec.ofChange fnRoomLimitsWrong)

/-- 'zzlaws_internal_site_g1.FnRoomMonotone': WHATEVER THE INPUT: true; the input reads as it did. -/
def fnRoomMonotoneSpec : ChangeSpec := { name := "fnRoomMonotone", fn := fun _ => fun
  | [d1, d2, d3, d4] => { results := [.lit (.bool true)], args := [d1, d2, d3, d4] }
  | _ => none }
def fnRoomMonotoneRow : OpenClaim := { program := "qxb6003671a", sum := "e227782e6a4a3377c19d7d3b89385470b05ad1154f11a734b97584448d82a76d", func := "example.com/knotwise/knotwise/zzlaws_internal_site_g1.FnRoomMonotone", spec := "fnRoomMonotone", apart := false }
def FnRoomMonotoneSaid : Prop := fnRoomMonotoneRow.holds Try.pinned (OpenSpec.ofChange fnRoomMonotoneSpec)

/-- ITS FALSE NEIGHBOUR: 'it returns false'. Refute it at one input. -/
def fnRoomMonotoneWrong : ChangeSpec := { name := "fnRoomMonotone", fn := fun _ => fun
  | [d1, d2, d3, d4] => { results := [.lit (.bool false)], args := [d1, d2, d3, d4] }
  | _ => none }
def FnRoomMonotoneWrongFalsely : Prop := fnRoomMonotoneRow.holds Try.pinned (OpenSpec.ofChange fnRoomMonotoneWrong)

end Rows
end Go.Proofs.Qxb6003671a
