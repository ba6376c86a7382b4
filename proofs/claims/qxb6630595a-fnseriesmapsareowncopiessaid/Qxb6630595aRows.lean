/-
  No cell of these rows narrows 'for every input' (looked for: loops, veiled, ifaces, maps, wideKeys, modest, calm, conditions, laid).
  DERIVED. THE GIVEN ROWS OF THIS SEAT. 2 by the template 'for every input the law returns true; each argument reads behind the call as it read before'; 0 by the template 'total and deterministic' (their statements: Qxb6630595aTotals.lean).
  GIVEN WITH THE SEED: the statements are not yours to turn. If you find one false, say at which input.
  Laid BY PROGRAM, IN A SANDBOX (cutbox-rows.mjs): the forced cells as the released guide's own fill.sh prints them over the translation f08e05b4c776cb29… (all of the seat's roots in one cut). By AI agents, Wed Nov 11 2026. No macro, syntax, notation, axiom, sorry.
-/
import Derived.Test.Qxb6630595aChecked
import GoSem.Claim
import GoSem.ClaimJoined
import GoSem.ClaimMapViews
import Derived.JoinedTies
import Derived.KernelRfl
namespace Go.Proofs.Qxb6630595a
/- THE CELL 'sum', in the pinned program and in every row, IS THE sha256 OF THE DUMP (.gsa) THAT Qxb6630595aProg.lean LOADS. Nothing in Lean hashes anything: it is a label: what it is worth is what the hold of that sum in a sandbox is worth. -/
noncomputable def Try.pinned : Pinned := { name := "qxb6630595a", sum := "f08e05b4c776cb2944ecf59f95940f917a4d3ddc13a572cf67dc40e26ad55f73", checked := Try.checked }
namespace Rows
def none {H : Type} : Left H := { results := [], args := [] }

/-- 'zzlaws_pkg_promtext_b1.FnSeriesMatchesLastWinsLabelModel': WHATEVER THE INPUT: true; the input reads as it did. -/
def fnSeriesMatchesLastWinsLabelModelSpec : ChangeSpec := { name := "fnSeriesMatchesLastWinsLabelModel", fn := fun _ => fun
  | [d1, d2, d3, d4, d5, d6] => { results := [.lit (.bool true)], args := [d1, d2, d3, d4, d5, d6] }
  | _ => none }
def fnSeriesMatchesLastWinsLabelModelRow : OpenClaim := { program := "qxb6630595a", sum := "f08e05b4c776cb2944ecf59f95940f917a4d3ddc13a572cf67dc40e26ad55f73", func := "example.com/offpeak/offpeak/zzlaws_pkg_promtext_b1.FnSeriesMatchesLastWinsLabelModel", spec := "fnSeriesMatchesLastWinsLabelModel", apart := false }
def FnSeriesMatchesLastWinsLabelModelSaid : Prop := fnSeriesMatchesLastWinsLabelModelRow.holds Try.pinned (OpenSpec.ofChange fnSeriesMatchesLastWinsLabelModelSpec)

/-- ITS FALSE NEIGHBOUR: 'it returns false'. Refute it at one input. -/
def fnSeriesMatchesLastWinsLabelModelWrong : ChangeSpec := { name := "fnSeriesMatchesLastWinsLabelModel", fn := fun _ => fun
  | [d1, d2, d3, d4, d5, d6] => { results := [.lit (.bool false)], args := [d1, d2, d3, d4, d5, d6] }
  | _ => none }
def FnSeriesMatchesLastWinsLabelModelWrongFalsely : Prop := fnSeriesMatchesLastWinsLabelModelRow.holds Try.pinned (OpenSpec.ofChange fnSeriesMatchesLastWinsLabelModelWrong)

/-- 'zzlaws_pkg_promtext_b1.FnSeriesMapsAreOwnCopies': WHATEVER THE INPUT: true; the input reads as it did. -/
def fnSeriesMapsAreOwnCopiesSpec : ChangeSpec := { name := "fnSeriesMapsAreOwnCopies", fn := fun _ => fun
  | [d1, d2, d3, d4, d5, d6] => { results := [.lit (.bool true)], args := [d1, d2, d3, d4, d5, d6] }
  | _ => none }
def fnSeriesMapsAreOwnCopiesRow : OpenClaim := { program := "qxb6630595a", sum := "f08e05b4c776cb2944ecf59f95940f917a4d3ddc13a572cf67dc40e26ad55f73", func := "example.com/offpeak/offpeak/zzlaws_pkg_promtext_b1.FnSeriesMapsAreOwnCopies", spec := "fnSeriesMapsAreOwnCopies", apart := false }
def FnSeriesMapsAreOwnCopiesSaid : Prop := fnSeriesMapsAreOwnCopiesRow.holds Try.pinned (OpenSpec.ofChange fnSeriesMapsAreOwnCopiesSpec)

/-- ITS FALSE NEIGHBOUR: 'it returns false'. Refute it at one input. -/
def fnSeriesMapsAreOwnCopiesWrong : ChangeSpec := { name := "fnSeriesMapsAreOwnCopies", fn := fun _ => fun
  | [d1, d2, d3, d4, d5, d6] => { results := [.lit (.bool false)], args := [d1, d2, d3, d4, d5, d6] }
  | _ => none }
def FnSeriesMapsAreOwnCopiesWrongFalsely : Prop := fnSeriesMapsAreOwnCopiesRow.holds Try.pinned (OpenSpec.ofChange fnSeriesMapsAreOwnCopiesWrong)

end Rows
end Go.Proofs.Qxb6630595a
