/-
  THE WALK of FnFieldNameIsCharwise.
-/
import Derived.Test.Qxb6630547aWalks2
import Derived.Test.Qxb6630547aPlain2
namespace Go.Proofs.Qxb6630547a
open Go.RowKit

theorem zz_list (s : ByteArray) (l : List UInt8) (h : s.data.toList = l) (hs : s.size ≤ maxLen) (w : World) :
    Calls Try.prog 6 #[.string s] w fun e w' => e = .returned (.bool (nameB l)) ∧ Below w.heap.size w w' := by
  subst h; exact zz_any s hs w

set_option maxHeartbeats 1000000 in
theorem charwise_big (s : ByteArray) (hs : s.size ≤ maxLen) (h : 65536 < s.size) (w : World) :
    Calls Try.prog 4 #[.string s] w fun e w' => e = .returned (.bool true) ∧ Below w.heap.size w w' := by
  by_cases h2 : s.size ≤ 1048576
  · have hd : decide (s.size ≤ 1048576) = true := by simpa using h2
    have hs' := hs
    unfold maxLen at hs'
    go_enter Try.func4, Try.ntmps4
    go_wp2_with (go_at_call 8; refine (bytes8_any _ hs _).mono ?_; rintro e w' ⟨rfl, rfl⟩)
    go_ret
    exact ⟨rfl, Below.refl _ _⟩
  · have hd : decide (s.size ≤ 1048576) = false := by simpa using h2
    go_enter Try.func4, Try.ntmps4
    go_wp2_with (go_at_call 8; refine (bytes8_any _ hs _).mono ?_; rintro e w' ⟨rfl, rfl⟩)
    go_ret
    exact ⟨rfl, Below.refl _ _⟩

set_option maxHeartbeats 1000000 in
theorem charwise_none (s : ByteArray) (hs : s.size ≤ maxLen) (h : s.size < 1) (w : World) :
    Calls Try.prog 4 #[.string s] w fun e w' => e = .returned (.bool true) ∧ Below w.heap.size w w' := by
  have hd : decide (s.size ≤ 1048576) = true := by simp; omega
  have hl : Hid (s.data.toList.length = s.size) := by show _ = _; rw [Array.length_toList]; rfl
  have hn : nameB s.data.toList = false := nameB_len (by rw [hl.out]; omega)
  go_enter Try.func4, Try.ntmps4
  go_wp2_with (go_at_call 8; refine (bytes8_any _ hs _).mono ?_; rintro e w' ⟨rfl, rfl⟩)
  refine wp_loop_rounds 1 ?_
  rw [rounds_succ]
  go_wp2_with (go_at_call 6; refine (zz_any _ hs _).mono ?_; rintro e w' ⟨rfl, hb⟩)
  go_ret
  exact ⟨rfl, by assumption⟩

theorem at_get (s : ByteArray) (k : Nat) (h : k < s.size) : ((s[k]'h).toNat : Int) = at_ s.data.toList k := by
  rw [at_, List.getD_eq_getElem?_getD, Array.getElem?_toList, Array.getElem?_eq_getElem h]; rfl

theorem cut_one (s : ByteArray) (k : Nat) (h : k < s.size) : (s.extract k (k + 1)).data.toList = [s[k]'h] := by
  rw [ByteArray.data_extract, Array.toList_extract, List.extract_eq_take_drop]
  have hl : k < s.data.toList.length := by rw [Array.length_toList]; exact h
  rw [List.drop_eq_getElem_cons hl]
  simp
  rfl

theorem q_one (s : ByteArray) (k : Nat) (h : k < s.size) : (({ data := #[81] } : ByteArray) ++ s.extract k (k + 1)).data.toList = [81, s[k]'h] := by
  rw [ByteArray.data_append, Array.toList_append, cut_one s k h]; rfl

set_option maxHeartbeats 1000000 in
theorem charwise_some (s : ByteArray) (hs : s.size ≤ maxLen) (h : 1 ≤ s.size) (h2 : s.size ≤ 65536) (w : World) :
    Calls Try.prog 4 #[.string s] w fun e w' => e = .returned (.bool true) ∧ Below w.heap.size w w' := by
  have hd : decide (s.size ≤ 1048576) = true := by simp; omega
  have hl : Hid (s.data.toList.length = s.size) := by show _ = _; rw [Array.length_toList]; rfl
  obtain ⟨b10, HB10, hd10⟩ : ∃ b : Bool, Hid (b = decide (0 < s.data.toList.length ∧ s.data.toList.length ≤ 10)) ∧ decide ((s.size : Int) ≤ 10) = b := ⟨_, rfl, by rw [hl.out, decide_eq_decide]; omega⟩
  have hb0 : (0 : Int) ≤ ((s[0]'h).toNat : Int) := by omega
  have hb1 : ((s[0]'h).toNat : Int) ≤ 255 := by have := (s[0]'h).toNat_lt; omega
  have hc0 := fun w => zz_list (s.extract 0 1) [s[0]'h] (cut_one s 0 h) (by rw [ByteArray.size_extract]; unfold maxLen; omega) w
  simp only [one_let] at hc0
  obtain ⟨L, hL⟩ : ∃ L, L = isLet ((s[0]'h).toNat : Int) := ⟨_, rfl⟩
  rw [← hL] at hc0
  have hc1 := fun w => letter_any ((s[0]'h).toNat : Int) hb0 hb1 w
  rw [← hL] at hc1
  have HW : Hid (wantTo s.data.toList 1 = (b10 && L)) := by show _ = _; rw [wantTo_one, HB10.out, hL, at_get]
  clear hL hb0 hb1
  have HC0 : Hid _ := hc0
  have HC1 : Hid _ := hc1
  clear hc0 hc1
  go_enter Try.func4, Try.ntmps4
  go_wp2_with (go_at_call 8; refine (bytes8_any _ hs _).mono ?_; rintro e w' ⟨rfl, hw⟩; obtain rfl := hw.symm)
  refine (HC0.out _).mono ?_
  rintro e w1 ⟨rfl, hbel⟩
  have hbel : Hid (Below w.heap.size w w1) := hbel
  cases b10 <;> cases L
  all_goals
    go_wp2_with (go_at_call 9; refine (HC1.out _).mono ?_; rintro e w' ⟨rfl, hw⟩; obtain rfl := hw.symm)
    go_loopw [3, 5] (fun want i wr => ∃ (k : Nat) (b : Bool), 1 ≤ k ∧ k ≤ s.size ∧ i = .int .i64 k ∧ want = .bool b ∧ Hid (wantTo s.data.toList k = b) ∧ Hid (Below w.heap.size w wr)) (fun _ i _ => s.size - (intOf i).toNat)
    case atStart => exact ⟨1, _, by omega, by omega, rfl, rfl, HW, hbel⟩
    case round =>
      obtain ⟨k, b, hk1, hk, rfl, rfl, HWk, HB⟩ := hrel
      by_cases hlt : k < s.size
      · have hb0 : (0 : Int) ≤ ((s[k]'hlt).toNat : Int) := by omega
        have hb1 : ((s[k]'hlt).toNat : Int) ≤ 255 := by have := (s[k]'hlt).toNat_lt; omega
        have hck := fun w => zz_list (({ data := #[81] } : ByteArray) ++ s.extract k (k + 1)) [81, s[k]'hlt] (q_one s k hlt) (by rw [ByteArray.size_append, ByteArray.size_extract]; unfold maxLen; show 1 + _ ≤ _; omega) w
        simp only [q_tail] at hck
        obtain ⟨T, hT⟩ : ∃ T, T = isTail ((s[k]'hlt).toNat : Int) := ⟨_, rfl⟩
        rw [← hT] at hck
        have htk := fun w => tail_any ((s[k]'hlt).toNat : Int) hb0 hb1 w
        rw [← hT] at htk
        have HW2 : Hid (wantTo s.data.toList (k + 1) = (b && T)) := by show _ = _; rw [wantTo_succ, HWk.out, hT, at_get]
        have HCK : Hid _ := hck
        have HTK : Hid _ := htk
        clear hck htk hT hb0 hb1
        go_wp2_with fail
        refine (HCK.out _).mono ?_
        rintro e w2 ⟨rfl, hb2⟩
        have HB2 : Hid (Below w.heap.size w w2) := HB.out.trans (hb2.mono HB.out.size)
        clear hb2
        cases b <;> cases T
        all_goals
          go_wp2_with (go_at_call 10; refine (HTK.out _).mono ?_; rintro e w' ⟨rfl, hw⟩; obtain rfl := hw.symm)
          go_roundw
          case rel => exact ⟨k + 1, _, by omega, by omega, by go_num, rfl, HW2, HB2⟩
          case measure => simp [intOf]; omega
      · have hn : nameB s.data.toList = b := by rw [← wantTo_all, hl.out, ← HWk.out]; congr 1; omega
        go_wp2_with (go_at_call 6; refine (zz_any _ hs _).mono ?_; rintro e w2 ⟨rfl, hb2⟩)
        go_ret
        exact ⟨ret_bool (by simp), HB.out.trans (Below.mono (by assumption) HB.out.size)⟩

theorem charwise_any (s : ByteArray) (hs : s.size ≤ maxLen) (w : World) :
    Calls Try.prog 4 #[.string s] w fun e w' => e = .returned (.bool true) ∧ Below w.heap.size w w' := by
  by_cases h : 65536 < s.size
  · exact charwise_big s hs h w
  · by_cases h1 : s.size < 1
    · exact charwise_none s hs h1 w
    · exact charwise_some s hs (by omega) (by omega) w

end Go.Proofs.Qxb6630547a
