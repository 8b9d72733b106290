/-
  No cell of these rows narrows 'for every input' (looked for: loops, veiled, ifaces, maps, wideKeys, modest, calm, conditions, laid).
  DERIVED. THE GIVEN ROWS OF THIS SEAT. 2 by the template 'for every input the law returns true; each argument reads behind the call as it read before'; 0 by the template 'total and deterministic' (their statements: Qxb6605557aTotals.lean).
  GIVEN WITH THE SEED: the statements are not yours to turn. If you find one false, say at which input.
  Laid BY PROGRAM, IN A SANDBOX (cutbox-rows.mjs): the forced cells as the released guide's own fill.sh prints them over the translation 6b10ac7fdf8f91ae… (all of the seat's roots in one cut). By AI agents, Wed Nov 11 2026. No macro, syntax, notation, axiom, sorry.
-/
import Derived.Test.Qxb6605557aChecked
import GoSem.Claim
import GoSem.ClaimJoined
import GoSem.ClaimMapViews
import Derived.JoinedTies
import Derived.KernelRfl
namespace Go.Proofs.Qxb6605557a
/- THE CELL 'sum', in the pinned program and in every row, IS THE sha256 OF THE DUMP (.gsa) THAT Qxb6605557aProg.lean LOADS. Nothing in Lean hashes anything: it is a label: what it is worth is what the hold of that sum in a sandbox is worth. -/
noncomputable def Try.pinned : Pinned := { name := "qxb6605557a", sum := "6b10ac7fdf8f91ae90842b27bec5eda3a45261eacfac5611931bfff3d9e4b8b4", checked := Try.checked }
namespace Rows
def none {H : Type} : Left H := { results := [], args := [] }

/-- 'zzlaws_pkg_ratebook_b1.FnStringEndByQuoteRuns': WHATEVER THE INPUT: true; the input reads as it did. -/
def fnStringEndByQuoteRunsSpec : ChangeSpec := { name := "fnStringEndByQuoteRuns", fn := fun _ => fun
  | [d1, d2] => { results := [.lit (.bool true)], args := [d1, d2] }
  | _ => none }
def fnStringEndByQuoteRunsRow : OpenClaim := { program := "qxb6605557a", sum := "6b10ac7fdf8f91ae90842b27bec5eda3a45261eacfac5611931bfff3d9e4b8b4", func := "example.com/ratebook/ratebook/zzlaws_pkg_ratebook_b1.FnStringEndByQuoteRuns", spec := "fnStringEndByQuoteRuns", inPlace := ["internal/abi.NoEscape", "internal/bytealg.MakeNoZero"], apart := false }
def FnStringEndByQuoteRunsSaid : Prop := fnStringEndByQuoteRunsRow.holds Try.pinned (OpenSpec.ofChange fnStringEndByQuoteRunsSpec)

/-- ITS FALSE NEIGHBOUR: 'it returns false'. Refute it at one input. -/
def fnStringEndByQuoteRunsWrong : ChangeSpec := { name := "fnStringEndByQuoteRuns", fn := fun _ => fun
  | [d1, d2] => { results := [.lit (.bool false)], args := [d1, d2] }
  | _ => none }
def FnStringEndByQuoteRunsWrongFalsely : Prop := fnStringEndByQuoteRunsRow.holds Try.pinned (OpenSpec.ofChange fnStringEndByQuoteRunsWrong)

/-- 'zzlaws_pkg_ratebook_b1.FnStringEndStopsAtItsClose': WHATEVER THE INPUT: true; the input reads as it did. -/
def fnStringEndStopsAtItsCloseSpec : ChangeSpec := { name := "fnStringEndStopsAtItsClose", fn := fun _ => fun
  | [d1, d2, d3] => { results := [.lit (.bool true)], args := [d1, d2, d3] }
  | _ => none }
def fnStringEndStopsAtItsCloseRow : OpenClaim := { program := "qxb6605557a", sum := "6b10ac7fdf8f91ae90842b27bec5eda3a45261eacfac5611931bfff3d9e4b8b4", func := "example.com/ratebook/ratebook/zzlaws_pkg_ratebook_b1.FnStringEndStopsAtItsClose", spec := "fnStringEndStopsAtItsClose", inPlace := ["internal/abi.NoEscape", "internal/bytealg.MakeNoZero"], apart := false }
def FnStringEndStopsAtItsCloseSaid : Prop := fnStringEndStopsAtItsCloseRow.holds Try.pinned (OpenSpec.ofChange fnStringEndStopsAtItsCloseSpec)

/-- ITS FALSE NEIGHBOUR: 'it returns false'. Refute it at one input. -/
def fnStringEndStopsAtItsCloseWrong : ChangeSpec := { name := "fnStringEndStopsAtItsClose", fn := fun _ => fun
  | [d1, d2, d3] => { results := [.lit (.bool false)], args := [d1, d2, d3] }
  | _ => none }
def FnStringEndStopsAtItsCloseWrongFalsely : Prop := fnStringEndStopsAtItsCloseRow.holds Try.pinned (OpenSpec.ofChange fnStringEndStopsAtItsCloseWrong)

end Rows
end Go.Proofs.Qxb6605557a
