/-
  THE WALKS of seat b6630547a: what each Go function on the road computes.
-/
import Derived.Test.Qxb6630547aRows
import Derived.Test.Qxb6630547aPlain
import Derived.WalkKit
import Derived.WalkSpells
namespace Go.Proofs.Qxb6630547a
open Go.RowKit

theorem ret_bool {a b : Bool} (h : a = b) : Ending.returned (.bool a) = .returned (.bool b) := by rw [h]

theorem or_bits : ∀ m : Fin 256, (decide (97 ≤ bits BinOp.or IntKind.u8 (m.val : Int) 32) && decide (bits BinOp.or IntKind.u8 (m.val : Int) 32 ≤ 122)) = isLet (m.val : Int) := by decide +kernel

theorem or_let (n : Int) (h0 : 0 ≤ n) (h1 : n ≤ 255) : (decide (97 ≤ bits BinOp.or IntKind.u8 n 32) && decide (bits BinOp.or IntKind.u8 n 32 ≤ 122)) = isLet n := by
  obtain ⟨m, rfl⟩ := Int.eq_ofNat_of_zero_le h0
  exact or_bits ⟨m, by omega⟩

set_option maxHeartbeats 400000 in
theorem letter_any (n : Int) (h0 : 0 ≤ n) (h1 : n ≤ 255) (w : World) :
    Calls Try.prog 9 #[.int .u8 n] w fun e w' => e = .returned (.bool (isLet n)) ∧ w' = w := by
  have H : Hid ((decide (97 ≤ bits BinOp.or IntKind.u8 n 32) && decide (bits BinOp.or IntKind.u8 n 32 ≤ 122)) = isLet n) := or_let n h0 h1
  go_enter Try.func9, Try.ntmps9
  go_wp2
  · have hb : 97 ≤ bits BinOp.or IntKind.u8 n 32 := by assumption
    go_ret
    exact ⟨ret_bool (by rw [← H.out]; simp [hb]), rfl⟩
  · have hb : bits BinOp.or IntKind.u8 n 32 < 97 := by assumption
    go_ret
    exact ⟨ret_bool (by rw [← H.out]; simp [show ¬ 97 ≤ bits BinOp.or IntKind.u8 n 32 by omega]), rfl⟩

set_option maxHeartbeats 400000 in
theorem digit_any (n : Int) (h0 : 0 ≤ n) (h1 : n ≤ 255) (w : World) :
    Calls Try.prog 12 #[.int .u8 n] w fun e w' => e = .returned (.bool (isDig n)) ∧ w' = w := by
  go_enter Try.func12, Try.ntmps12
  go_wp2
  go_ret
  exact ⟨ret_bool (by unfold isDig; rw [decide_eq_decide]; omega), rfl⟩

set_option maxHeartbeats 400000 in
theorem tail_any (n : Int) (h0 : 0 ≤ n) (h1 : n ≤ 255) (w : World) :
    Calls Try.prog 10 #[.int .u8 n] w fun e w' => e = .returned (.bool (isTail n)) ∧ w' = w := by
  cases hl : isLet n
  · have HL : Hid (isLet n = false) := hl
    cases hd : isDig n
    · have HD : Hid (isDig n = false) := hd
      go_enter Try.func10, Try.ntmps10
      go_wp2_with (first | (go_at_call 9; refine (letter_any _ h0 h1 _).mono ?_; rintro e w' ⟨rfl, rfl⟩) | (go_at_call 12; refine (digit_any _ h0 h1 _).mono ?_; rintro e w' ⟨rfl, rfl⟩))
      go_ret
      exact ⟨ret_bool (by rw [isTail, HL.out, HD.out]; simp [BEq.beq]), rfl⟩
    · have HD : Hid (isDig n = true) := hd
      go_enter Try.func10, Try.ntmps10
      go_wp2_with (first | (go_at_call 9; refine (letter_any _ h0 h1 _).mono ?_; rintro e w' ⟨rfl, rfl⟩) | (go_at_call 12; refine (digit_any _ h0 h1 _).mono ?_; rintro e w' ⟨rfl, rfl⟩))
      go_ret
      exact ⟨ret_bool (by rw [isTail, HL.out, HD.out]; simp), rfl⟩
  · have HL : Hid (isLet n = true) := hl
    go_enter Try.func10, Try.ntmps10
    go_wp2_with (first | (go_at_call 9; refine (letter_any _ h0 h1 _).mono ?_; rintro e w' ⟨rfl, rfl⟩) | (go_at_call 12; refine (digit_any _ h0 h1 _).mono ?_; rintro e w' ⟨rfl, rfl⟩))
    go_ret
    exact ⟨ret_bool (by rw [isTail, HL.out]; simp), rfl⟩

set_option maxHeartbeats 400000 in
theorem bytes8_any (s : ByteArray) (hs : s.size ≤ maxLen) (w : World) :
    Calls Try.prog 8 #[.string s] w fun e w' => e = .returned (.bool (decide (s.size ≤ 1048576))) ∧ w' = w := by
  unfold maxLen at hs
  by_cases h : s.size ≤ 1048576
  · go_enter Try.func8, Try.ntmps8
    go_wp2
    go_ret
    exact ⟨ret_bool (by simp [h]), rfl⟩
  · go_enter Try.func8, Try.ntmps8
    go_wp2
    go_ret
    exact ⟨ret_bool (by simp [h]), rfl⟩

set_option maxHeartbeats 400000 in
theorem bytes5_any (s : ByteArray) (k : Int) (hs : s.size ≤ maxLen) (w : World) :
    Calls Try.prog 5 #[.string s, .int .i64 k] w fun e w' => e = .returned (.bool (decide (s.size ≤ 1048576))) ∧ w' = w := by
  unfold maxLen at hs
  by_cases h : s.size ≤ 1048576
  · go_enter Try.func5, Try.ntmps5
    go_wp2
    go_ret
    exact ⟨ret_bool (by simp [h]), rfl⟩
  · go_enter Try.func5, Try.ntmps5
    go_wp2
    go_ret
    exact ⟨ret_bool (by simp [h]), rfl⟩

theorem cell_made (w : World) (s : ByteArray) (cap j : Nat) (m : Nat × Nat) (hj : j < s.size) :
    (w.alloc (.cells (bytesRow s cap) 5 m)).cell? ⟨w.heap.size, j, none⟩ = some (.int .u8 (at_ s.data.toList j)) := by
  rw [World.cell?_alloc_mark]
  have h2 := bytesRow_at s cap j hj
  have e : s.data.toList.getD j 0 = s.data[j]'hj := by
    rw [List.getD_eq_getElem?_getD, Array.getElem?_toList, Array.getElem?_eq_getElem hj]; rfl
  rw [h2, at_, e]

set_option maxHeartbeats 1000000 in
theorem name_any (s : ByteArray) (hs : s.size ≤ maxLen) (w : World) :
    Calls Try.prog 11 #[.string s] w fun e w' => e = .returned (.bool (nameB s.data.toList)) ∧ Below w.heap.size w w' := by
  unfold maxLen at hs
  have hlen : s.data.toList.length = s.size := by rw [Array.length_toList]; rfl
  by_cases h0 : s.size < 1
  · have HN : Hid (nameB s.data.toList = false) := nameB_len (by omega)
    have hz : ((s.size : Int) == 0) = true := beq_iff_eq.2 (by omega)
    clear hlen
    go_enter Try.func11, Try.ntmps11
    go_wp2
    go_ret
    exact ⟨ret_bool HN.out.symm, Below.refl _ _⟩
  have hne : ((s.size : Int) == 0) = false := beq_eq_false_iff_ne.2 (by omega)
  by_cases h10 : 10 < s.size
  · have HN : Hid (nameB s.data.toList = false) := nameB_len (by omega)
    clear hlen
    go_enter Try.func11, Try.ntmps11
    go_wp2
    go_ret
    exact ⟨ret_bool HN.out.symm, Below.refl _ _⟩
  have HLEN : Hid (s.data.toList.length = s.size) := hlen
  clear hlen
  obtain ⟨cap, hcap⟩ : ∃ cap, cap = grownCap w s.size 0 5 := ⟨_, rfl⟩
  obtain ⟨C, hC⟩ : ∃ C, C = bytesRow s cap := ⟨_, rfl⟩
  have hconv : (convert 9 25 (.string s)).run Try.prog w = .ok (.slice (some ⟨w.heap.size, 0, none⟩) s.size cap) (w.drew.alloc (.cells C 5 (C.size, C.size + 1))) := by
    rw [hC, hcap]; exact run_bytes_of_string (P := Try.prog) w 9 25 5 s Try.underlying9 Try.underlying25 Try.underlying5
  have hcells : ∀ j, j < s.size → (w.alloc (.cells C 5 (C.size, C.size + 1))).cell? ⟨w.heap.size, j, none⟩ = some (.int .u8 (at_ s.data.toList j)) := fun j hj => by rw [hC]; exact cell_made w s cap j _ hj
  clear hC hcap
  go_enter Try.func11, Try.ntmps11
  go_wp2
  go_loop [17] (fun i => ∃ k : Nat, k ≤ s.size ∧ i = .int .i64 k ∧ Hid (okTo s.data.toList k)) (fun i => s.size - (intOf i).toNat)
  case atStart => exact ⟨0, Nat.zero_le _, rfl, okTo_zero _⟩
  case round =>
    obtain ⟨k, hk, rfl, hok⟩ := hrel
    by_cases hlt : k < s.size
    · have hcell := hcells k hlt
      have hb := at_bounds s.data.toList k
      clear hcells hconv
      obtain ⟨c, hc⟩ : ∃ c, c = at_ s.data.toList k := ⟨_, rfl⟩
      rw [← hc] at hcell hb
      have HC : Hid (c = at_ s.data.toList k) := hc
      clear hc
      have hcls : ((65 ≤ c ∧ c ≤ 90)) ∨ (97 ≤ c ∧ c ≤ 122) ∨ (c < 48) ∨ (48 ≤ c ∧ c ≤ 57) ∨ (57 < c ∧ c < 65) ∨ (90 < c ∧ c < 95) ∨ (95 ≤ c ∧ c ≤ 95) ∨ (96 ≤ c ∧ c ≤ 96) ∨ 122 < c := by omega
      by_cases hk0 : k = 0
      · have hk1 : ((k : Int) == 0) = true := by simp [hk0]
        have HK : Hid (k = 0) := hk0
        have HC0 : Hid (c = at_ s.data.toList 0) := by rw [← hk0]; exact HC
        clear hk0
        rcases hcls with ⟨ha, hb⟩ | ⟨ha, hb⟩ | ha | ⟨ha, hb⟩ | ⟨ha, hb⟩ | ⟨ha, hb⟩ | ⟨ha, hb⟩ | ⟨ha, hb⟩ | ha
        · go_wp2
          go_round
          case rel => exact ⟨k + 1, by omega, by go_num, ok_next hok HC.out (fun _ => by omega) (by omega)⟩
          case measure => simp [intOf]; omega
        · have h90 : decide (c ≤ 90) = false := by simp; omega
          go_wp2
          go_round
          case rel => exact ⟨k + 1, by omega, by go_num, ok_next hok HC.out (fun _ => by omega) (by omega)⟩
          case measure => simp [intOf]; omega
        · go_wp2
          go_ret
          exact ⟨ret_bool (bad_head HC0.out (by omega)), ((Below.refl _ _).alloc (Nat.le_refl _) _).drew⟩
        · go_wp2
          go_ret
          exact ⟨ret_bool (bad_head HC0.out (by omega)), ((Below.refl _ _).alloc (Nat.le_refl _) _).drew⟩
        · go_wp2
          go_ret
          exact ⟨ret_bool (bad_head HC0.out (by omega)), ((Below.refl _ _).alloc (Nat.le_refl _) _).drew⟩
        · have h90 : decide (c ≤ 90) = false := by simp; omega
          go_wp2
          go_ret
          exact ⟨ret_bool (bad_head HC0.out (by omega)), ((Below.refl _ _).alloc (Nat.le_refl _) _).drew⟩
        · have h90 : decide (c ≤ 90) = false := by simp; omega
          go_wp2
          go_ret
          exact ⟨ret_bool (bad_head HC0.out (by omega)), ((Below.refl _ _).alloc (Nat.le_refl _) _).drew⟩
        · have h90 : decide (c ≤ 90) = false := by simp; omega
          go_wp2
          go_ret
          exact ⟨ret_bool (bad_head HC0.out (by omega)), ((Below.refl _ _).alloc (Nat.le_refl _) _).drew⟩
        · have h90 : decide (c ≤ 90) = false := by simp; omega
          have h122 : decide (c ≤ 122) = false := by simp; omega
          go_wp2
          go_ret
          exact ⟨ret_bool (bad_head HC0.out (by omega)), ((Below.refl _ _).alloc (Nat.le_refl _) _).drew⟩
      · have hk1 : ((k : Int) == 0) = false := by simp [hk0]
        have HK : Hid (¬ k = 0) := hk0
        clear hk0
        have hkl : Hid (k < s.data.toList.length) := by show k < s.data.toList.length; rw [HLEN.out]; exact hlt
        rcases hcls with ⟨ha, hb⟩ | ⟨ha, hb⟩ | ha | ⟨ha, hb⟩ | ⟨ha, hb⟩ | ⟨ha, hb⟩ | ⟨ha, hb⟩ | ⟨ha, hb⟩ | ha
        · go_wp2
          go_round
          case rel => exact ⟨k + 1, by omega, by go_num, ok_next hok HC.out (fun h => absurd h HK.out) (by omega)⟩
          case measure => simp [intOf]; omega
        · have h90 : decide (c ≤ 90) = false := by simp; omega
          go_wp2
          go_round
          case rel => exact ⟨k + 1, by omega, by go_num, ok_next hok HC.out (fun h => absurd h HK.out) (by omega)⟩
          case measure => simp [intOf]; omega
        · have h95 : (c != 95) = true := by simp; omega
          go_wp2
          go_ret
          exact ⟨ret_bool (bad_tail hkl.out HC.out (by omega)), ((Below.refl _ _).alloc (Nat.le_refl _) _).drew⟩
        · go_wp2
          go_round
          case rel => exact ⟨k + 1, by omega, by go_num, ok_next hok HC.out (fun h => absurd h HK.out) (by omega)⟩
          case measure => simp [intOf]; omega
        · have h95 : (c != 95) = true := by simp; omega
          go_wp2
          go_ret
          exact ⟨ret_bool (bad_tail hkl.out HC.out (by omega)), ((Below.refl _ _).alloc (Nat.le_refl _) _).drew⟩
        · have h90 : decide (c ≤ 90) = false := by simp; omega
          have h95 : (c != 95) = true := by simp; omega
          go_wp2
          go_ret
          exact ⟨ret_bool (bad_tail hkl.out HC.out (by omega)), ((Below.refl _ _).alloc (Nat.le_refl _) _).drew⟩
        · have h90 : decide (c ≤ 90) = false := by simp; omega
          have h95 : (c != 95) = false := by simp; omega
          go_wp2
          go_round
          case rel => exact ⟨k + 1, by omega, by go_num, ok_next hok HC.out (fun h => absurd h HK.out) (by omega)⟩
          case measure => simp [intOf]; omega
        · have h90 : decide (c ≤ 90) = false := by simp; omega
          have h95 : (c != 95) = true := by simp; omega
          go_wp2
          go_ret
          exact ⟨ret_bool (bad_tail hkl.out HC.out (by omega)), ((Below.refl _ _).alloc (Nat.le_refl _) _).drew⟩
        · have h90 : decide (c ≤ 90) = false := by simp; omega
          have h122 : decide (c ≤ 122) = false := by simp; omega
          have h95 : (c != 95) = true := by simp; omega
          go_wp2
          go_ret
          exact ⟨ret_bool (bad_tail hkl.out HC.out (by omega)), ((Below.refl _ _).alloc (Nat.le_refl _) _).drew⟩
    · clear hcells hconv
      go_wp2
      go_ret
      exact ⟨ret_bool (nameB_true (by rw [HLEN.out]; omega) (by rw [HLEN.out]; omega) (by rw [HLEN.out, show s.size = k by omega]; exact hok)).symm, ((Below.refl _ _).alloc (Nat.le_refl _) _).drew⟩

end Go.Proofs.Qxb6630547a
