/-
  THE PLAIN SIDE of seat b6630547a, second text: single bytes, and the loop's running answer.
-/
import Derived.Test.Qxb6630547aPlain
namespace Go.Proofs.Qxb6630547a

theorem one_let (c : UInt8) : nameB [c] = isLet (c.toNat : Int) := by
  cases h : isLet (c.toNat : Int)
  · exact nameB_head (by simpa [at_] using h)
  · refine nameB_true (by simp) (by simp) ⟨fun _ => by simpa [at_] using h, fun i hi => ?_⟩
    have : i = 0 := by simp at hi; omega
    subst this
    exact isTail_of_let (by simpa [at_] using h)

theorem isLet_Q : isLet 81 = true := by decide

theorem q_tail (c : UInt8) : nameB [81, c] = isTail (c.toNat : Int) := by
  cases h : isTail (c.toNat : Int)
  · exact nameB_tail (k := 1) (by simp) (by simpa [at_] using h)
  · refine nameB_true (by simp) (by simp) ⟨fun _ => by simpa [at_] using isLet_Q, fun i hi => ?_⟩
    have : i = 0 ∨ i = 1 := by simp at hi; omega
    rcases this with rfl | rfl
    · exact isTail_of_let (by simpa [at_] using isLet_Q)
    · simpa [at_] using h

/-- What 'want' holds when the first k bytes have been looked at. -/
def wantTo (l : List UInt8) (k : Nat) : Bool := decide (0 < l.length ∧ l.length ≤ 10) && (isLet (at_ l 0) && (List.range k).all fun i => isTail (at_ l i))

theorem wantTo_all (l : List UInt8) : wantTo l l.length = nameB l := rfl

theorem wantTo_one (l : List UInt8) : wantTo l 1 = (decide (0 < l.length ∧ l.length ≤ 10) && isLet (at_ l 0)) := by
  unfold wantTo
  cases h : isLet (at_ l 0)
  · simp
  · simp [List.range_succ, isTail_of_let h]

theorem wantTo_succ (l : List UInt8) (k : Nat) : wantTo l (k + 1) = (wantTo l k && isTail (at_ l k)) := by
  unfold wantTo
  rw [List.range_succ, List.all_append]
  simp [Bool.and_assoc]

end Go.Proofs.Qxb6630547a
