/-
  THE WALK of FnFieldNameCutsAnywhere.
-/
import Derived.Test.Qxb6630547aWalks2
import Derived.Test.Qxb6630547aPlain3
namespace Go.Proofs.Qxb6630547a
open Go.RowKit

theorem zz_at (s : ByteArray) (l : List UInt8) (h : s.data.toList = l) (hs : s.size ≤ maxLen) (w : World) :
    Calls Try.prog 6 #[.string s] w fun e w' => e = .returned (.bool (nameB l)) ∧ Below w.heap.size w w' := by
  subst h; exact zz_any s hs w

theorem cut_front (s : ByteArray) (k : Nat) : (s.extract 0 k).data.toList = s.data.toList.take k := by
  rw [ByteArray.data_extract, Array.toList_extract, List.extract_eq_take_drop]; simp

theorem cut_back (s : ByteArray) (k : Nat) : (({ data := #[81] } : ByteArray) ++ s.extract k s.size).data.toList = 81 :: s.data.toList.drop k := by
  rw [ByteArray.data_append, Array.toList_append, ByteArray.data_extract, Array.toList_extract, List.extract_eq_take_drop]
  rw [List.take_of_length_le (by rw [List.length_drop, Array.length_toList]; exact Nat.le_refl _)]
  rfl

set_option maxHeartbeats 1000000 in
theorem cuts_big (s : ByteArray) (k : Int) (hs : s.size ≤ maxLen) (h : 65536 < s.size) (w : World) :
    Calls Try.prog 3 #[.string s, .int .i64 k] w fun e w' => e = .returned (.bool true) ∧ Below w.heap.size w w' := by
  by_cases h2 : s.size ≤ 1048576
  · have hd : decide (s.size ≤ 1048576) = true := by simpa using h2
    have hs' := hs
    unfold maxLen at hs'
    go_enter Try.func3, Try.ntmps3
    go_wp2_with (go_at_call 5; refine (bytes5_any _ _ hs _).mono ?_; rintro e w' ⟨rfl, hw⟩; obtain rfl := hw.symm)
    go_ret
    exact ⟨rfl, Below.refl _ _⟩
  · have hd : decide (s.size ≤ 1048576) = false := by simpa using h2
    go_enter Try.func3, Try.ntmps3
    go_wp2_with (go_at_call 5; refine (bytes5_any _ _ hs _).mono ?_; rintro e w' ⟨rfl, hw⟩; obtain rfl := hw.symm)
    go_ret
    exact ⟨rfl, Below.refl _ _⟩

set_option maxHeartbeats 1000000 in
theorem cuts_out (s : ByteArray) (k : Int) (hs : s.size ≤ maxLen) (h : s.size ≤ 65536) (hk : k < 1 ∨ (s.size : Int) < k) (w : World) :
    Calls Try.prog 3 #[.string s, .int .i64 k] w fun e w' => e = .returned (.bool true) ∧ Below w.heap.size w w' := by
  have hd : decide (s.size ≤ 1048576) = true := by simp; omega
  rcases hk with hk | hk
  · go_enter Try.func3, Try.ntmps3
    go_wp2_with (go_at_call 5; refine (bytes5_any _ _ hs _).mono ?_; rintro e w' ⟨rfl, hw⟩; obtain rfl := hw.symm)
    go_ret
    exact ⟨rfl, Below.refl _ _⟩
  · by_cases hk0 : k < 1
    · exact absurd hk0 (by omega)
    go_enter Try.func3, Try.ntmps3
    go_wp2_with (go_at_call 5; refine (bytes5_any _ _ hs _).mono ?_; rintro e w' ⟨rfl, hw⟩; obtain rfl := hw.symm)
    go_ret
    exact ⟨rfl, Below.refl _ _⟩

set_option maxHeartbeats 1000000 in
theorem cuts_in (s : ByteArray) (k : Nat) (hs : s.size ≤ maxLen) (h : s.size ≤ 65536) (h1 : 1 ≤ k) (h2 : k ≤ s.size) (w : World) :
    Calls Try.prog 3 #[.string s, .int .i64 k] w fun e w' => e = .returned (.bool true) ∧ Below w.heap.size w w' := by
  have hd : decide (s.size ≤ 1048576) = true := by simp; omega
  have hl : Hid (s.data.toList.length = s.size) := by show _ = _; rw [Array.length_toList]; rfl
  obtain ⟨N, hN⟩ : ∃ N, N = nameB s.data.toList := ⟨_, rfl⟩
  have c0 := fun w => zz_any s hs w
  have cm := fun w => model_any s hs w
  rw [← hN] at c0 cm
  have C0 : Hid _ := c0
  have CM : Hid _ := cm
  clear c0 cm
  by_cases h10 : s.size ≤ 10
  · have hd10 : decide ((s.size : Int) ≤ 10) = true := by simp; omega
    obtain ⟨A, hA⟩ : ∃ A, A = nameB (s.data.toList.take k) := ⟨_, rfl⟩
    obtain ⟨B, hB⟩ : ∃ B, B = nameB (81 :: s.data.toList.drop k) := ⟨_, rfl⟩
    have HNE : Hid (N = (A && B)) := by show _ = _; rw [hN, hA, hB]; exact cut_law _ k h1 (by rw [hl.out]; exact h2) (by rw [hl.out]; exact h10)
    have c1 := fun w => zz_at (s.extract 0 k) _ (cut_front s k) (by rw [ByteArray.size_extract]; unfold maxLen; omega) w
    have c2 := fun w => zz_at (({ data := #[81] } : ByteArray) ++ s.extract k s.size) _ (cut_back s k) (by rw [ByteArray.size_append, ByteArray.size_extract]; unfold maxLen; show 1 + _ ≤ _; omega) w
    rw [← hA] at c1
    rw [← hB] at c2
    have C1 : Hid _ := c1
    have C2 : Hid _ := c2
    clear c1 c2 hN hA hB
    go_enter Try.func3, Try.ntmps3
    go_wp2_with (go_at_call 5; refine (bytes5_any _ _ hs _).mono ?_; rintro e w' ⟨rfl, hw⟩; obtain rfl := hw.symm)
    refine (C0.out _).mono ?_
    rintro e w1 ⟨rfl, hb1⟩
    have HB1 : Hid (Below w.heap.size w w1) := hb1
    clear hb1
    go_wp2_with fail
    refine (C1.out _).mono ?_
    rintro e w2 ⟨rfl, hb2⟩
    have HB2 : Hid (Below w.heap.size w w2) := HB1.out.trans (hb2.mono HB1.out.size)
    clear hb2 HB1
    cases A
    · have e : N = false := by rw [HNE.out]; rfl
      subst e
      go_wp2_with (go_at_call 7; refine (CM.out _).mono ?_; rintro e w' ⟨rfl, hw⟩; obtain rfl := hw.symm)
      go_ret
      exact ⟨rfl, HB2⟩
    · have e : N = B := by rw [HNE.out]; rfl
      subst e
      clear HNE
      go_wp2_with fail
      refine (C2.out _).mono ?_
      rintro e w3 ⟨rfl, hb3⟩
      have HB3 : Hid (Below w.heap.size w w3) := HB2.out.trans (hb3.mono HB2.out.size)
      clear hb3 HB2
      cases N
      all_goals
        go_wp2_with (go_at_call 7; refine (CM.out _).mono ?_; rintro e w' ⟨rfl, hw⟩; obtain rfl := hw.symm)
        go_ret
        exact ⟨rfl, HB3⟩
  · have hd10 : decide ((s.size : Int) ≤ 10) = false := by simp; omega
    have e : N = false := by rw [hN]; exact nameB_len (by rw [hl.out]; omega)
    clear hN
    subst e
    go_enter Try.func3, Try.ntmps3
    go_wp2_with (go_at_call 5; refine (bytes5_any _ _ hs _).mono ?_; rintro e w' ⟨rfl, hw⟩; obtain rfl := hw.symm)
    refine (C0.out _).mono ?_
    rintro e w1 ⟨rfl, hb1⟩
    have HB1 : Hid (Below w.heap.size w w1) := hb1
    clear hb1
    go_wp2_with (go_at_call 7; refine (CM.out _).mono ?_; rintro e w' ⟨rfl, hw⟩; obtain rfl := hw.symm)
    go_ret
    exact ⟨rfl, HB1⟩

theorem cuts_any (s : ByteArray) (k : Int) (hs : s.size ≤ maxLen) (w : World) :
    Calls Try.prog 3 #[.string s, .int .i64 k] w fun e w' => e = .returned (.bool true) ∧ Below w.heap.size w w' := by
  by_cases h : 65536 < s.size
  · exact cuts_big s k hs h w
  · by_cases hk : k < 1 ∨ (s.size : Int) < k
    · exact cuts_out s k hs (by omega) hk w
    · obtain ⟨n, rfl⟩ := Int.eq_ofNat_of_zero_le (show 0 ≤ k by omega)
      exact cuts_in s n hs (by omega) (by omega) (by omega) w

end Go.Proofs.Qxb6630547a
