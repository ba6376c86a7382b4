/-
  THE WALKS of seat b6630547a, second text: the exported name, the automaton.
-/
import Derived.Test.Qxb6630547aWalks
namespace Go.Proofs.Qxb6630547a
open Go.RowKit

set_option maxHeartbeats 400000 in
theorem zz_any (s : ByteArray) (hs : s.size ≤ maxLen) (w : World) :
    Calls Try.prog 6 #[.string s] w fun e w' => e = .returned (.bool (nameB s.data.toList)) ∧ Below w.heap.size w w' := by
  go_enter Try.func6, Try.ntmps6
  go_wp2_with (go_at_call 11; refine (name_any _ hs _).mono ?_; rintro e w' ⟨rfl, hb⟩)
  go_ret
  exact ⟨rfl, by assumption⟩

set_option maxHeartbeats 1000000 in
theorem model_any (s : ByteArray) (hs : s.size ≤ maxLen) (w : World) :
    Calls Try.prog 7 #[.string s] w fun e w' => e = .returned (.bool (nameB s.data.toList)) ∧ w' = w := by
  unfold maxLen at hs
  have HLEN : Hid (s.data.toList.length = s.size) := by show _ = _; rw [Array.length_toList]; rfl
  go_enter Try.func7, Try.ntmps7
  go_wp2
  go_loop [3, 4, 5] (fun st n i => ∃ (k : Nat) (q : Int), k ≤ s.size ∧ k ≤ 10 ∧ i = .int .i64 k ∧ n = .int .i64 k ∧ st = .int .i64 q ∧ Hid ((k = 0 → q = 0) ∧ (0 < k → q = 1)) ∧ Hid (okTo s.data.toList k)) (fun _ _ i => s.size - (intOf i).toNat)
  case atStart => exact ⟨0, 0, Nat.zero_le _, Nat.zero_le _, rfl, rfl, rfl, ⟨fun _ => rfl, fun h => absurd h (by omega)⟩, okTo_zero _⟩
  case round =>
    obtain ⟨k, q, hk, hk10, rfl, rfl, rfl, hq, hok⟩ := hrel
    by_cases hlt : k < s.size
    · have hbd : Hid (((s[k]'hlt).toNat : Int) = at_ s.data.toList k) := by
        show _ = _
        rw [at_, List.getD_eq_getElem?_getD, Array.getElem?_toList, Array.getElem?_eq_getElem hlt]; rfl
      have hb0 : (0 : Int) ≤ ((s[k]'hlt).toNat : Int) := by omega
      have hb1 : ((s[k]'hlt).toNat : Int) ≤ 255 := by have := (s[k]'hlt).toNat_lt; omega
      have hkl : Hid (k < s.data.toList.length) := by show k < s.data.toList.length; rw [HLEN.out]; exact hlt
      by_cases hk0 : k = 0
      · have hq0 : q = 0 := hq.out.1 hk0
        subst hq0
        have HK : Hid (k = 0) := hk0
        clear hk0 hq
        have hk9 : k < 10 := by have := HK.out; omega
        cases hl : isLet ((s[k]'hlt).toNat : Int)
        · have HL : Hid (isLet ((s[k]'hlt).toNat : Int) = false) := hl
          go_wp2_with (go_at_call 9; refine (letter_any _ hb0 hb1 _).mono ?_; rintro e w' ⟨rfl, rfl⟩)
          go_ret
          exact ⟨ret_bool (bad_headB HK.out hbd.out HL.out), rfl⟩
        · have HL : Hid (isLet ((s[k]'hlt).toNat : Int) = true) := hl
          go_wp2_with (go_at_call 9; refine (letter_any _ hb0 hb1 _).mono ?_; rintro e w' ⟨rfl, rfl⟩)
          go_round
          case rel => exact ⟨k + 1, 1, by omega, by omega, by go_num, by go_num, rfl, ⟨fun h => absurd h (by omega), fun _ => rfl⟩, ok_nextB hok hbd.out (fun _ => HL.out) (isTail_of_let HL.out)⟩
          case measure => simp [intOf]; omega
      · have hq1 : q = 1 := hq.out.2 (by omega)
        subst hq1
        have HK : Hid (¬ k = 0) := hk0
        clear hk0 hq
        cases hl : isTail ((s[k]'hlt).toNat : Int)
        · have HL : Hid (isTail ((s[k]'hlt).toNat : Int) = false) := hl
          go_wp2_with (go_at_call 10; refine (tail_any _ hb0 hb1 _).mono ?_; rintro e w' ⟨rfl, rfl⟩)
          go_ret
          exact ⟨ret_bool (bad_tailB hkl.out hbd.out HL.out), rfl⟩
        · have HL : Hid (isTail ((s[k]'hlt).toNat : Int) = true) := hl
          by_cases hk9 : k < 10
          · go_wp2_with (go_at_call 10; refine (tail_any _ hb0 hb1 _).mono ?_; rintro e w' ⟨rfl, rfl⟩)
            go_round
            case rel => exact ⟨k + 1, 1, by omega, by omega, by go_num, by go_num, rfl, ⟨fun h => absurd h (by omega), fun _ => rfl⟩, ok_nextB hok hbd.out (fun h => absurd h HK.out) HL.out⟩
            case measure => simp [intOf]; omega
          · go_wp2_with (go_at_call 10; refine (tail_any _ hb0 hb1 _).mono ?_; rintro e w' ⟨rfl, rfl⟩)
            go_ret
            exact ⟨ret_bool (nameB_len (by rw [HLEN.out]; omega)).symm, rfl⟩
    · by_cases hk0 : k = 0
      · have hq0 : q = 0 := hq.out.1 hk0
        subst hq0
        have HK : Hid (k = 0) := hk0
        clear hk0 hq
        go_wp2
        go_ret
        exact ⟨ret_bool (nameB_len (by rw [HLEN.out]; have := HK.out; omega)).symm, rfl⟩
      · have hq1 : q = 1 := hq.out.2 (by omega)
        subst hq1
        have HK : Hid (¬ k = 0) := hk0
        clear hk0 hq
        go_wp2
        go_ret
        exact ⟨ret_bool (nameB_true (by rw [HLEN.out]; have := HK.out; omega) (by rw [HLEN.out]; omega) (by rw [HLEN.out, show s.size = k by omega]; exact hok)).symm, rfl⟩

end Go.Proofs.Qxb6630547a
