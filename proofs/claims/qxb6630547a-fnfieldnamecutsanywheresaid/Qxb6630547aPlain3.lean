/-
  THE PLAIN SIDE of seat b6630547a, third text: a name cut anywhere.
-/
import Derived.Test.Qxb6630547aPlain2
namespace Go.Proofs.Qxb6630547a

theorem at_take (l : List UInt8) {k i : Nat} (h : i < k) : at_ (l.take k) i = at_ l i := by
  unfold at_
  rw [List.getD_eq_getElem?_getD, List.getD_eq_getElem?_getD, List.getElem?_take, if_pos h]

theorem at_drop (l : List UInt8) (k i : Nat) : at_ (81 :: l.drop k) (i + 1) = at_ l (k + i) := by
  unfold at_
  rw [List.getD_eq_getElem?_getD, List.getD_eq_getElem?_getD, List.getElem?_cons_succ, List.getElem?_drop]

theorem at_Q (l : List UInt8) : at_ (81 :: l) 0 = 81 := rfl

theorem cut_law (l : List UInt8) (k : Nat) (h1 : 1 ≤ k) (h2 : k ≤ l.length) (h10 : l.length ≤ 10) : nameB l = (nameB (l.take k) && nameB (81 :: l.drop k)) := by
  rw [Bool.eq_iff_iff, Bool.and_eq_true, nameB_iff, nameB_iff, nameB_iff]
  have e1 : (l.take k).length = k := by rw [List.length_take]; omega
  have e2 : (81 :: l.drop k).length = l.length - k + 1 := by rw [List.length_cons, List.length_drop]
  rw [e1, e2, at_take l (by omega), at_Q]
  constructor
  · rintro ⟨_, hl, ht⟩
    refine ⟨⟨⟨by omega, by omega⟩, hl, fun i hi => ?_⟩, ⟨by omega, by omega⟩, isLet_Q, fun i hi => ?_⟩
    · rw [at_take l hi]; exact ht i (by omega)
    · cases i with
      | zero => exact isTail_of_let isLet_Q
      | succ i => rw [at_drop]; exact ht (k + i) (by omega)
  · rintro ⟨⟨_, hl, ht⟩, _, _, hd⟩
    refine ⟨⟨by omega, h10⟩, hl, fun i hi => ?_⟩
    by_cases hik : i < k
    · rw [← at_take l hik]; exact ht i hik
    · have := hd (i - k + 1) (by omega)
      rw [at_drop] at this
      rw [show i = k + (i - k) by omega]; exact this

end Go.Proofs.Qxb6630547a
