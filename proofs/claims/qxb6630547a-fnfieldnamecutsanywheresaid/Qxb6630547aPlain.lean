/-
  THE PLAIN SIDE of seat b6630547a: what the functions compute, on numbers and lists of bytes; no Go in sight.
-/
namespace Go.Proofs.Qxb6630547a

def isLet (n : Int) : Bool := decide ((65 ≤ n ∧ n ≤ 90) ∨ (97 ≤ n ∧ n ≤ 122))
def isDig (n : Int) : Bool := decide (48 ≤ n ∧ n ≤ 57)
def isTail (n : Int) : Bool := isLet n || (isDig n || decide (n = 95))

/-- The byte at place i, as a number. -/
def at_ (l : List UInt8) (i : Nat) : Int := ((l.getD i 0).toNat : Int)

/-- The first k bytes may stand in a name. -/
def okTo (l : List UInt8) (k : Nat) : Prop := (0 < k → isLet (at_ l 0) = true) ∧ ∀ i, i < k → isTail (at_ l i) = true

/-- The field name rule. -/
def nameB (l : List UInt8) : Bool := decide (0 < l.length ∧ l.length ≤ 10) && (isLet (at_ l 0) && (List.range l.length).all fun i => isTail (at_ l i))

theorem nameB_true {l : List UInt8} (h0 : 0 < l.length) (h : l.length ≤ 10) (ho : okTo l l.length) : nameB l = true := by
  simp only [nameB, Bool.and_eq_true, decide_eq_true_eq, List.all_eq_true, List.mem_range]
  exact ⟨⟨h0, h⟩, ho.1 h0, ho.2⟩

theorem nameB_len {l : List UInt8} (h : l.length = 0 ∨ 10 < l.length) : nameB l = false := by
  have : ¬ (0 < l.length ∧ l.length ≤ 10) := by omega
  simp [nameB, this]

theorem nameB_head {l : List UInt8} (h : isLet (at_ l 0) = false) : nameB l = false := by simp [nameB, h]

theorem nameB_tail {l : List UInt8} {k : Nat} (hk : k < l.length) (h : isTail (at_ l k) = false) : nameB l = false := by
  have e : ((List.range l.length).all fun i => isTail (at_ l i)) = false := by
    rw [List.all_eq_false]
    exact ⟨k, by simpa using hk, by simp [h]⟩
  simp [nameB, e]

theorem nameB_iff (l : List UInt8) : nameB l = true ↔ (0 < l.length ∧ l.length ≤ 10) ∧ isLet (at_ l 0) = true ∧ ∀ i, i < l.length → isTail (at_ l i) = true := by
  simp only [nameB, Bool.and_eq_true, decide_eq_true_eq, List.all_eq_true, List.mem_range]

theorem okTo_zero (l : List UInt8) : okTo l 0 := ⟨fun h => absurd h (by omega), fun i h => absurd h (by omega)⟩

theorem okTo_succ {l : List UInt8} {k : Nat} (h : okTo l k) (h0 : k = 0 → isLet (at_ l 0) = true) (ht : isTail (at_ l k) = true) : okTo l (k + 1) := by
  refine ⟨fun _ => ?_, fun i hi => ?_⟩
  · by_cases e : k = 0
    · exact h0 e
    · exact h.1 (by omega)
  · by_cases e : i = k
    · rw [e]; exact ht
    · exact h.2 i (by omega)

theorem isTail_of_let {n : Int} (h : isLet n = true) : isTail n = true := by simp [isTail, h]

theorem at_bounds (l : List UInt8) (i : Nat) : 0 ≤ at_ l i ∧ at_ l i ≤ 255 := by
  unfold at_
  have := (l.getD i 0).toNat_lt
  omega

theorem isLet_iff (n : Int) : isLet n = true ↔ (65 ≤ n ∧ n ≤ 90) ∨ (97 ≤ n ∧ n ≤ 122) := by simp [isLet]
theorem isTail_iff (n : Int) : isTail n = true ↔ ((65 ≤ n ∧ n ≤ 90) ∨ (97 ≤ n ∧ n ≤ 122)) ∨ (48 ≤ n ∧ n ≤ 57) ∨ n = 95 := by simp [isTail, isLet, isDig]

theorem bad_head {l : List UInt8} {c : Int} (hc : c = at_ l 0) (h : ¬ ((65 ≤ c ∧ c ≤ 90) ∨ (97 ≤ c ∧ c ≤ 122))) : false = nameB l := by
  refine (nameB_head ?_).symm
  rw [← hc]
  cases e : isLet c
  · rfl
  · exact absurd ((isLet_iff c).1 e) h

theorem bad_tail {l : List UInt8} {c : Int} {k : Nat} (hk : k < l.length) (hc : c = at_ l k) (h : ¬ (((65 ≤ c ∧ c ≤ 90) ∨ (97 ≤ c ∧ c ≤ 122)) ∨ (48 ≤ c ∧ c ≤ 57) ∨ c = 95)) : false = nameB l := by
  refine (nameB_tail hk ?_).symm
  rw [← hc]
  cases e : isTail c
  · rfl
  · exact absurd ((isTail_iff c).1 e) h

theorem ok_next {l : List UInt8} {c : Int} {k : Nat} (ho : okTo l k) (hc : c = at_ l k) (h0 : k = 0 → ((65 ≤ c ∧ c ≤ 90) ∨ (97 ≤ c ∧ c ≤ 122))) (ht : ((65 ≤ c ∧ c ≤ 90) ∨ (97 ≤ c ∧ c ≤ 122)) ∨ (48 ≤ c ∧ c ≤ 57) ∨ c = 95) : okTo l (k + 1) := by
  refine okTo_succ ho (fun e => ?_) ?_
  · have := h0 e
    subst e
    rw [← hc, isLet_iff]
    exact this
  · rw [← hc, isTail_iff]
    exact ht

theorem ok_nextB {l : List UInt8} {c : Int} {k : Nat} (ho : okTo l k) (hc : c = at_ l k) (h0 : k = 0 → isLet c = true) (ht : isTail c = true) : okTo l (k + 1) := by
  refine okTo_succ ho (fun e => ?_) ?_
  · have := h0 e
    subst e
    rw [← hc]
    exact this
  · rw [← hc]
    exact ht

theorem bad_headB {l : List UInt8} {c : Int} {k : Nat} (hk : k = 0) (hc : c = at_ l k) (h : isLet c = false) : false = nameB l := by
  subst hk
  refine (nameB_head ?_).symm
  rw [← hc]
  exact h

theorem bad_tailB {l : List UInt8} {c : Int} {k : Nat} (hk : k < l.length) (hc : c = at_ l k) (h : isTail c = false) : false = nameB l := by
  refine (nameB_tail hk ?_).symm
  rw [← hc]
  exact h

end Go.Proofs.Qxb6630547a
