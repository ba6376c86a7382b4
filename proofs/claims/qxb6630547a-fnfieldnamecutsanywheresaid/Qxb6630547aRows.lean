/-
  No cell of these rows narrows 'for every input' (looked for: loops, veiled, ifaces, maps, wideKeys, modest, calm, conditions, laid).
  DERIVED. THE GIVEN ROWS OF THIS SEAT. 2 by the template 'for every input the law returns true; each argument reads behind the call as it read before'; 0 by the template 'total and deterministic' (their statements: Qxb6630547aTotals.lean).
  GIVEN WITH THE SEED: the statements are not yours to turn. If you find one false, say at which input.
  Laid BY PROGRAM, IN A SANDBOX (cutbox-rows.mjs): the forced cells as the released guide's own fill.sh prints them over the translation 212ae73a883951eb… (all of the seat's roots in one cut). By AI agents, Wed Nov 11 2026. No macro, syntax, notation, axiom, sorry.
-/
import Derived.Test.Qxb6630547aChecked
import GoSem.Claim
import GoSem.ClaimJoined
import GoSem.ClaimMapViews
import Derived.JoinedTies
import Derived.KernelRfl
namespace Go.Proofs.Qxb6630547a
/- THE CELL 'sum', in the pinned program and in every row, IS THE sha256 OF THE DUMP (.gsa) THAT Qxb6630547aProg.lean LOADS. Nothing in Lean hashes anything: it is a label: what it is worth is what the hold of that sum in a sandbox is worth. -/
noncomputable def Try.pinned : Pinned := { name := "qxb6630547a", sum := "212ae73a883951ebee62db040a0f050768596cd02a88fa8d300d7966a22a6ed9", checked := Try.checked }
namespace Rows
def none {H : Type} : Left H := { results := [], args := [] }

/-- 'zzlaws_root_b1.FnFieldNameCutsAnywhere': WHATEVER THE INPUT: true; the input reads as it did. -/
def fnFieldNameCutsAnywhereSpec : ChangeSpec := { name := "fnFieldNameCutsAnywhere", fn := fun _ => fun
  | [d1, d2] => { results := [.lit (.bool true)], args := [d1, d2] }
  | _ => none }
def fnFieldNameCutsAnywhereRow : OpenClaim := { program := "qxb6630547a", sum := "212ae73a883951ebee62db040a0f050768596cd02a88fa8d300d7966a22a6ed9", func := "example.com/fieldstone/fieldstone/zzlaws_root_b1.FnFieldNameCutsAnywhere", spec := "fnFieldNameCutsAnywhere", apart := false }
def FnFieldNameCutsAnywhereSaid : Prop := fnFieldNameCutsAnywhereRow.holds Try.pinned (OpenSpec.ofChange fnFieldNameCutsAnywhereSpec)

/-- ITS FALSE NEIGHBOUR: 'it returns false'. Refute it at one input. -/
def fnFieldNameCutsAnywhereWrong : ChangeSpec := { name := "fnFieldNameCutsAnywhere", fn := fun _ => fun
  | [d1, d2] => { results := [.lit (.bool false)], args := [d1, d2] }
  | _ => none }
def FnFieldNameCutsAnywhereWrongFalsely : Prop := fnFieldNameCutsAnywhereRow.holds Try.pinned (OpenSpec.ofChange fnFieldNameCutsAnywhereWrong)

/-- 'zzlaws_root_b1.FnFieldNameIsCharwise': WHATEVER THE INPUT: true; the input reads as it did. -/
def fnFieldNameIsCharwiseSpec : ChangeSpec := { name := "fnFieldNameIsCharwise", fn := fun _ => fun
  | [d] => { results := [.lit (.bool true)], args := [d] }
  | _ => none }
def fnFieldNameIsCharwiseRow : OpenClaim := { program := "qxb6630547a", sum := "212ae73a883951ebee62db040a0f050768596cd02a88fa8d300d7966a22a6ed9", func := "example.com/fieldstone/fieldstone/zzlaws_root_b1.FnFieldNameIsCharwise", spec := "fnFieldNameIsCharwise", apart := false }
def FnFieldNameIsCharwiseSaid : Prop := fnFieldNameIsCharwiseRow.holds Try.pinned (OpenSpec.ofChange fnFieldNameIsCharwiseSpec)

/-- ITS FALSE NEIGHBOUR: 'it returns false'. Refute it at one input. -/
def fnFieldNameIsCharwiseWrong : ChangeSpec := { name := "fnFieldNameIsCharwise", fn := fun _ => fun
  | [d] => { results := [.lit (.bool false)], args := [d] }
  | _ => none }
def FnFieldNameIsCharwiseWrongFalsely : Prop := fnFieldNameIsCharwiseRow.holds Try.pinned (OpenSpec.ofChange fnFieldNameIsCharwiseWrong)

end Rows
end Go.Proofs.Qxb6630547a
