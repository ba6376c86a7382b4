/-
  No cell of these rows narrows 'for every input' (looked for: loops, veiled, ifaces, maps, wideKeys, modest, calm, conditions, laid).
  DERIVED. THE GIVEN ROWS OF THIS SEAT. 2 by the template 'for every input the law returns true; each argument reads behind the call as it read before'; 0 by the template 'total and deterministic' (their statements: Qxb6630640aTotals.lean).
  GIVEN WITH THE SEED: the statements are not yours to turn. If you find one false, say at which input.
  Laid BY PROGRAM, IN A SANDBOX (cutbox-rows.mjs): the forced cells as the released guide's own fill.sh prints them over the translation cc90cd89014841c4… (all of the seat's roots in one cut). By AI agents, Wed Nov 11 2026. No macro, syntax, notation, axiom, sorry.
-/
import Derived.Test.Qxb6630640aChecked
import GoSem.Claim
import GoSem.ClaimJoined
import GoSem.ClaimMapViews
import Derived.JoinedTies
import Derived.KernelRfl
namespace Go.Proofs.Qxb6630640a
/- THE CELL 'sum', in the pinned program and in every row, IS THE sha256 OF THE DUMP (.gsa) THAT Qxb6630640aProg.lean LOADS. Nothing in Lean hashes anything: it is a label: what it is worth is what the hold of that sum in a sandbox is worth. -/
noncomputable def Try.pinned : Pinned := { name := "qxb6630640a", sum := "cc90cd89014841c4d5cd33dbc0e850c11402eb4d964077368d5bcfc2513d30d8", checked := Try.checked }
namespace Rows
def none {H : Type} : Left H := { results := [], args := [] }

/-- 'zzlaws_internal_eventtype_b1.FnMatchingPatternsCut': WHATEVER THE INPUT: true; the input reads as it did. -/
def fnMatchingPatternsCutSpec : ChangeSpec := { name := "fnMatchingPatternsCut", fn := fun _ => fun
  | [d1, d2] => { results := [.lit (.bool true)], args := [d1, d2] }
  | _ => none }
def fnMatchingPatternsCutRow : OpenClaim := { program := "qxb6630640a", sum := "cc90cd89014841c4d5cd33dbc0e850c11402eb4d964077368d5bcfc2513d30d8", func := "example.com/spillway/spillway/zzlaws_internal_eventtype_b1.FnMatchingPatternsCut", spec := "fnMatchingPatternsCut", apart := false }
def FnMatchingPatternsCutSaid : Prop := fnMatchingPatternsCutRow.holds Try.pinned (OpenSpec.ofChange fnMatchingPatternsCutSpec)

/-- ITS FALSE NEIGHBOUR: 'it returns false'. Refute it at one input. -/
def fnMatchingPatternsCutWrong : ChangeSpec := { name := "fnMatchingPatternsCut", fn := fun _ => fun
  | [d1, d2] => { results := [.lit (.bool false)], args := [d1, d2] }
  | _ => none }
def FnMatchingPatternsCutWrongFalsely : Prop := fnMatchingPatternsCutRow.holds Try.pinned (OpenSpec.ofChange fnMatchingPatternsCutWrong)

/-- 'zzlaws_internal_eventtype_b1.FnMatchingPatternsMeetsMatcher': WHATEVER THE INPUT: true; the input reads as it did. -/
def fnMatchingPatternsMeetsMatcherSpec : ChangeSpec := { name := "fnMatchingPatternsMeetsMatcher", fn := fun _ => fun
  | [d1, d2] => { results := [.lit (.bool true)], args := [d1, d2] }
  | _ => none }
def fnMatchingPatternsMeetsMatcherRow : OpenClaim := { program := "qxb6630640a", sum := "cc90cd89014841c4d5cd33dbc0e850c11402eb4d964077368d5bcfc2513d30d8", func := "example.com/spillway/spillway/zzlaws_internal_eventtype_b1.FnMatchingPatternsMeetsMatcher", spec := "fnMatchingPatternsMeetsMatcher", apart := false }
def FnMatchingPatternsMeetsMatcherSaid : Prop := fnMatchingPatternsMeetsMatcherRow.holds Try.pinned (OpenSpec.ofChange fnMatchingPatternsMeetsMatcherSpec)

/-- ITS FALSE NEIGHBOUR: 'it returns false'. Refute it at one input. -/
def fnMatchingPatternsMeetsMatcherWrong : ChangeSpec := { name := "fnMatchingPatternsMeetsMatcher", fn := fun _ => fun
  | [d1, d2] => { results := [.lit (.bool false)], args := [d1, d2] }
  | _ => none }
def FnMatchingPatternsMeetsMatcherWrongFalsely : Prop := fnMatchingPatternsMeetsMatcherRow.holds Try.pinned (OpenSpec.ofChange fnMatchingPatternsMeetsMatcherWrong)

end Rows
end Go.Proofs.Qxb6630640a
