/-
  THE WALK of zzMatchCount.
-/
import Derived.Test.Qxb6630640aWalks
import Derived.Deep.QuietTactic
import Derived.BigQuiet
namespace Go.Proofs.Qxb6630640a
open Go.RowKit

/-- What zzMatchCount answers: the count; it only reads. -/
def Counted (w : World) (c : Nat) (e : Ending) (w' : World) : Prop := e = .returned (.int .i64 c) ∧ ∃ q, w' = w.drewN q

set_option maxHeartbeats 1000000 in
theorem match_short (p t : ByteArray) (b1 b2 : Bool) (hb1 : (p.toList == [42]) = b1) (hb2 : (p.toList == t.toList) = b2) (h3 : p.size < 3) (w : World) :
    Calls Try.prog 8 #[.string p, .string t] w (Counted w (b2n b1 + b2n b2)) := by
  have hg : decide ((3 : Int) ≤ (p.size : Int)) = false := by simp; omega
  cases b1 <;> cases b2
  all_goals
    go_enter Try.func8, Try.ntmps8
    go_wp2_with fail
    go_quiet (fail)
    go_wp2_with fail
    go_ret
    exact ⟨rfl, _, rfl⟩

set_option maxHeartbeats 1000000 in
theorem match_dot (p t : ByteArray) (m m1 : Nat) (b1 b2 : Bool) (hb1 : (p.toList == [42]) = b1) (hb2 : (p.toList == t.toList) = b2) (h3 : 1 ≤ m) (hm : m ≤ 100000) (hp : p.size = m + 2) (hp1 : p.size = m1 + 1) (hmp : m < p.size) (w : World)
    (h46 : (((p[m]'hmp).toNat : Int) == 46) = false) :
    Calls Try.prog 8 #[.string p, .string t] w (Counted w (b2n b1 + b2n b2)) := by
  have hs2 : (p.size : Int) - 2 = (m : Int) := by omega
  have hs1 : (p.size : Int) - 1 = (m1 : Int) := by omega
  have hw2 : IntKind.i64.wrap (m : Int) = (m : Int) := by rw [IntKind.wrap_i64]; omega
  have hw1 : IntKind.i64.wrap (m1 : Int) = (m1 : Int) := by rw [IntKind.wrap_i64]; omega
  have hg : (3 : Int) ≤ (p.size : Int) := by omega
  have hz : p.size ≤ 200000 := by omega
  have i0 : (0 : Int) ≤ (m : Int) := by omega
  have i1 : (m : Int) < (p.size : Int) := by omega
  have i2 : (0 : Int) ≤ (m1 : Int) := by omega
  have i3 : (m1 : Int) < (p.size : Int) := by omega
  clear hp hp1
  cases b1 <;> cases b2
  all_goals
    go_enter Try.func8, Try.ntmps8
    go_wp2_with fail
    go_quiet (fail)
    go_wp2_with fail
    go_ret
    exact ⟨rfl, _, rfl⟩

set_option maxHeartbeats 1000000 in
theorem match_star (p t : ByteArray) (m m1 : Nat) (b1 b2 : Bool) (hb1 : (p.toList == [42]) = b1) (hb2 : (p.toList == t.toList) = b2) (h3 : 1 ≤ m) (hm : m ≤ 100000) (hp : p.size = m + 2) (hp1 : p.size = m1 + 1) (hmp : m < p.size) (hmp1 : m1 < p.size) (w : World)
    (h46 : (((p[m]'hmp).toNat : Int) == 46) = true) (h42 : (((p[m1]'hmp1).toNat : Int) == 42) = false) :
    Calls Try.prog 8 #[.string p, .string t] w (Counted w (b2n b1 + b2n b2)) := by
  have hs2 : (p.size : Int) - 2 = (m : Int) := by omega
  have hs1 : (p.size : Int) - 1 = (m1 : Int) := by omega
  have hw2 : IntKind.i64.wrap (m : Int) = (m : Int) := by rw [IntKind.wrap_i64]; omega
  have hw1 : IntKind.i64.wrap (m1 : Int) = (m1 : Int) := by rw [IntKind.wrap_i64]; omega
  have hg : (3 : Int) ≤ (p.size : Int) := by omega
  have hz : p.size ≤ 200000 := by omega
  have i0 : (0 : Int) ≤ (m : Int) := by omega
  have i1 : (m : Int) < (p.size : Int) := by omega
  have i2 : (0 : Int) ≤ (m1 : Int) := by omega
  have i3 : (m1 : Int) < (p.size : Int) := by omega
  clear hp hp1
  cases b1 <;> cases b2
  all_goals
    go_enter Try.func8, Try.ntmps8
    go_wp2_with fail
    go_quiet (fail)
    go_wp2_with fail
    go_ret
    exact ⟨rfl, _, rfl⟩

set_option maxHeartbeats 1000000 in
theorem match_len (p t : ByteArray) (m m1 : Nat) (b1 b2 : Bool) (hb1 : (p.toList == [42]) = b1) (hb2 : (p.toList == t.toList) = b2) (h3 : 1 ≤ m) (hm : m ≤ 100000) (hp : p.size = m + 2) (hp1 : p.size = m1 + 1) (hmp : m < p.size) (hmp1 : m1 < p.size) (w : World)
    (h46 : (((p[m]'hmp).toNat : Int) == 46) = true) (h42 : (((p[m1]'hmp1).toNat : Int) == 42) = true) (ht : t.size < m1) :
    Calls Try.prog 8 #[.string p, .string t] w (Counted w (b2n b1 + b2n b2)) := by
  have hs2 : (p.size : Int) - 2 = (m : Int) := by omega
  have hs1 : (p.size : Int) - 1 = (m1 : Int) := by omega
  have hw2 : IntKind.i64.wrap (m : Int) = (m : Int) := by rw [IntKind.wrap_i64]; omega
  have hw1 : IntKind.i64.wrap (m1 : Int) = (m1 : Int) := by rw [IntKind.wrap_i64]; omega
  have hg : (3 : Int) ≤ (p.size : Int) := by omega
  have hz : p.size ≤ 200000 := by omega
  have i0 : (0 : Int) ≤ (m : Int) := by omega
  have i1 : (m : Int) < (p.size : Int) := by omega
  have i2 : (0 : Int) ≤ (m1 : Int) := by omega
  have i3 : (m1 : Int) < (p.size : Int) := by omega
  have j1 : decide (m1 ≤ t.size) = false := by simp; omega
  clear hp hp1
  cases b1 <;> cases b2
  all_goals
    go_enter Try.func8, Try.ntmps8
    go_wp2_with fail
    go_quiet (fail)
    go_wp2_with fail
    go_ret
    exact ⟨rfl, _, rfl⟩

set_option maxHeartbeats 1000000 in
theorem match_eq (p t : ByteArray) (m m1 : Nat) (b1 b2 : Bool) (hb1 : (p.toList == [42]) = b1) (hb2 : (p.toList == t.toList) = b2) (h3 : 1 ≤ m) (hm : m ≤ 100000) (hp : p.size = m + 2) (hp1 : p.size = m1 + 1) (hmp : m < p.size) (hmp1 : m1 < p.size) (w : World)
    (h46 : (((p[m]'hmp).toNat : Int) == 46) = true) (h42 : (((p[m1]'hmp1).toNat : Int) == 42) = true) (ht : m1 ≤ t.size) (b3 : Bool) (hb3 : ((t.extract 0 m1).toList == (p.extract 0 m1).toList) = b3) :
    Calls Try.prog 8 #[.string p, .string t] w (Counted w (b2n b1 + b2n b2 + b2n b3)) := by
  have hs2 : (p.size : Int) - 2 = (m : Int) := by omega
  have hs1 : (p.size : Int) - 1 = (m1 : Int) := by omega
  have hw2 : IntKind.i64.wrap (m : Int) = (m : Int) := by rw [IntKind.wrap_i64]; omega
  have hw1 : IntKind.i64.wrap (m1 : Int) = (m1 : Int) := by rw [IntKind.wrap_i64]; omega
  have hg : (3 : Int) ≤ (p.size : Int) := by omega
  have hz : p.size ≤ 200000 := by omega
  have i0 : (0 : Int) ≤ (m : Int) := by omega
  have i1 : (m : Int) < (p.size : Int) := by omega
  have i2 : (0 : Int) ≤ (m1 : Int) := by omega
  have i3 : (m1 : Int) < (p.size : Int) := by omega
  have j1 : (m1 : Int) ≤ (t.size : Int) := by omega
  have j2 : (m1 : Int) ≤ (p.size : Int) := by omega
  clear hp hp1
  cases b1 <;> cases b2 <;> cases b3
  all_goals
    go_enter Try.func8, Try.ntmps8
    go_wp2_with fail
    go_quiet (fail)
    go_wp2_with fail
    go_ret
    exact ⟨rfl, _, rfl⟩

theorem beq_text (x y : ByteArray) : (x.toList == y.toList) = decide (x.data.toList = y.data.toList) := by
  rw [ByteArray.toList_eq, ByteArray.toList_eq, Bool.eq_iff_iff, beq_iff_eq, decide_eq_true_eq]
theorem beq_star (x : ByteArray) : (x.toList == [42]) = decide (x.data.toList = star.data.toList) := by
  rw [ByteArray.toList_eq, Bool.eq_iff_iff, beq_iff_eq, decide_eq_true_eq]; rfl

theorem mc_form (p t : ByteArray) : mc p t = b2n (p.toList == [42]) + b2n (p.toList == t.toList) + b2n (isPre p t) := by rw [beq_text, beq_star]; rfl

theorem cut_list (x : ByteArray) (m : Nat) : (x.extract 0 m).data.toList = x.data.toList.take m := by
  rw [ByteArray.data_extract, Array.toList_extract, List.extract_eq_take_drop]; simp

theorem at_int {x : ByteArray} {i : Nat} (h : i < x.size) : ((x[i]'h).toNat : Int) = (at_ x i : Int) := by rw [at_lt h]; rfl

theorem match_any (p t : ByteArray) (hp : p.size ≤ 100000) (w : World) : Calls Try.prog 8 #[.string p, .string t] w (Counted w (mc p t)) := by
  rw [mc_form]
  by_cases h3 : p.size < 3
  · have e : isPre p t = false := by unfold isPre; rw [decide_eq_false (show ¬ 3 ≤ p.size by omega)]; rfl
    rw [e]
    exact match_short p t _ _ rfl rfl h3 w
  obtain ⟨m, hm⟩ : ∃ m, p.size = m + 2 := ⟨p.size - 2, by omega⟩
  obtain ⟨m1, hm1⟩ : ∃ m1, p.size = m1 + 1 := ⟨p.size - 1, by omega⟩
  have hl : m < p.size := by omega
  have hl1 : m1 < p.size := by omega
  have ei : isPre p t = (decide (at_ p m = 46) && (decide (at_ p m1 = 42) && (decide (m1 ≤ t.size) && decide (t.data.toList.take m1 = p.data.toList.take m1)))) := by
    unfold isPre
    rw [decide_eq_true (show 3 ≤ p.size by omega), show p.size - 2 = m by omega, show p.size - 1 = m1 by omega, Bool.true_and]
  rw [ei]
  by_cases h46 : at_ p m = 46
  · have b46 : (((p[m]'hl).toNat : Int) == 46) = true := by rw [at_int hl, h46]; rfl
    by_cases h42 : at_ p m1 = 42
    · have b42 : (((p[m1]'hl1).toNat : Int) == 42) = true := by rw [at_int hl1, h42]; rfl
      by_cases ht : m1 ≤ t.size
      · rw [decide_eq_true h46, decide_eq_true h42, decide_eq_true ht, Bool.true_and, Bool.true_and, Bool.true_and]
        exact match_eq p t m m1 _ _ rfl rfl (by omega) (by omega) hm hm1 hl hl1 w b46 b42 ht _ (by rw [beq_text, cut_list, cut_list])
      · rw [decide_eq_false ht, Bool.false_and, Bool.and_false, Bool.and_false]
        exact match_len p t m m1 _ _ rfl rfl (by omega) (by omega) hm hm1 hl hl1 w b46 b42 (by omega)
    · rw [decide_eq_false h42, Bool.false_and, Bool.and_false]
      exact match_star p t m m1 _ _ rfl rfl (by omega) (by omega) hm hm1 hl hl1 w b46 (by rw [at_int hl1]; exact beq_eq_false_iff_ne.2 (by omega))
  · rw [decide_eq_false h46, Bool.false_and]
    exact match_dot p t m m1 _ _ rfl rfl (by omega) (by omega) hm hm1 hl w (by rw [at_int hl]; exact beq_eq_false_iff_ne.2 (by omega))

end Go.Proofs.Qxb6630640a
