/-
  THE WALKS of seat b6630595a, first text: the two guards on sizes, the comparison of two floats.
-/
import Derived.Test.Qxb6630595aRows
import Derived.WalkKit
import Derived.WalkSpells
import Derived.WalkLawsBesides
namespace Go.Proofs.Qxb6630595a
open Go.RowKit

/-- What is known of a slice of strings: its length; where it has an element, its address and what each cell holds. -/
def Strs (w : World) (a : Option Addr) (n : Nat) (S : List ByteArray) : Prop :=
  S.length = n ∧ (0 < n → ∃ b off, a = some ⟨b, off, none⟩ ∧ ∀ i, i < n → w.cell? ⟨b, off + i, none⟩ = some (.string (S.getD i ByteArray.empty)))

/-- What the guard 'zzTooBig' answers: some bool; where it says no, both lists are short. -/
def Big (n1 n2 : Nat) (w : World) (e : Ending) (w' : World) : Prop := ∃ b : Bool, e = .returned (.bool b) ∧ (b = false → n1 ≤ 4096 ∧ n2 ≤ 4096) ∧ w = w'

set_option maxHeartbeats 1000000 in
theorem toobig_any (s : ByteArray) (a1 : Option Addr) (n1 c1 : Nat) (S1 : List ByteArray) (a2 : Option Addr) (n2 c2 : Nat) (S2 : List ByteArray) (w : World)
    (hs : s.size ≤ maxLen) (h1 : Strs w a1 n1 S1) (h2 : Strs w a2 n2 S2) :
    Calls Try.prog 6 #[.string s, .slice a1 n1 c1, .slice a2 n2 c2] w (Big n1 n2 w) := by
  unfold maxLen at hs
  have H1 : Hid (Strs w a1 n1 S1) := h1
  have H2 : Hid (Strs w a2 n2 S2) := h2
  clear h1 h2
  by_cases hb1 : 4096 < n1
  · go_enter Try.func6, Try.ntmps6
    go_wp2
    go_ret
    exact ⟨true, rfl, fun h => (by cases h), rfl⟩
  by_cases hb2 : 4096 < n2
  · go_enter Try.func6, Try.ntmps6
    go_wp2
    go_ret
    exact ⟨true, rfl, fun h => (by cases h), rfl⟩
  by_cases hb3 : 1048576 < s.size
  · go_enter Try.func6, Try.ntmps6
    go_wp2
    go_ret
    exact ⟨true, rfl, fun h => (by cases h), rfl⟩
  go_enter Try.func6, Try.ntmps6
  go_wp2
  · go_ret
    exact ⟨true, rfl, fun h => (by cases h), rfl⟩
  go_loop [7, 8] (fun t i => ∃ (k : Nat) (z : Int), k ≤ n1 ∧ i = .int .i64 k ∧ t = .int .i64 z) (fun _ i => n1 - (intOf i).toNat)
  case atStart => exact ⟨0, _, by omega, rfl, rfl⟩
  case round =>
    obtain ⟨k, z, hk, rfl, rfl⟩ := hrel
    by_cases hlt : k < n1
    · obtain ⟨b, off, ha, hc⟩ := H1.out.2 (by omega)
      have hck := hc k hlt
      obtain ⟨sk, hsk⟩ : ∃ sk, sk = S1.getD k ByteArray.empty := ⟨_, rfl⟩
      rw [← hsk] at hck
      clear hc hsk
      subst ha
      go_wp2
      · go_ret
        exact ⟨true, rfl, fun h => (by cases h), rfl⟩
      · go_round
        case rel => exact ⟨k + 1, _, by omega, by go_num, rfl⟩
        case measure => simp [intOf]; omega
    · go_wp2
      go_loop [7, 9] (fun t i => ∃ (k : Nat) (z : Int), k ≤ n2 ∧ i = .int .i64 k ∧ t = .int .i64 z) (fun _ i => n2 - (intOf i).toNat)
      case atStart => exact ⟨0, _, by omega, rfl, rfl⟩
      case round =>
        obtain ⟨k, z, hk, rfl, rfl⟩ := hrel
        by_cases hlt : k < n2
        · obtain ⟨b, off, ha, hc⟩ := H2.out.2 (by omega)
          have hck := hc k hlt
          obtain ⟨sk, hsk⟩ : ∃ sk, sk = S2.getD k ByteArray.empty := ⟨_, rfl⟩
          rw [← hsk] at hck
          clear hc hsk
          subst ha
          go_wp2
          · go_ret
            exact ⟨true, rfl, fun h => (by cases h), rfl⟩
          · go_round
            case rel => exact ⟨k + 1, _, by omega, by go_num, rfl⟩
            case measure => simp [intOf]; omega
        · go_wp2
          go_ret
          exact ⟨false, rfl, fun _ => ⟨by omega, by omega⟩, rfl⟩

/-- The guard that the statement's program lays: it answers some bool. -/
def Some1 (w : World) (e : Ending) (w' : World) : Prop := ∃ b : Bool, e = .returned (.bool b) ∧ w = w'

set_option maxHeartbeats 1000000 in
theorem bytes5_any (s : ByteArray) (x y z : Value) (a1 : Option Addr) (n1 c1 : Nat) (S1 : List ByteArray) (a2 : Option Addr) (n2 c2 : Nat) (S2 : List ByteArray) (w : World)
    (hs : s.size ≤ maxLen) (h1 : Strs w a1 n1 S1) (h2 : Strs w a2 n2 S2) :
    Calls Try.prog 5 #[.string s, x, y, z, .slice a1 n1 c1, .slice a2 n2 c2] w (Some1 w) := by
  unfold maxLen at hs
  have H1 : Hid (Strs w a1 n1 S1) := h1
  have H2 : Hid (Strs w a2 n2 S2) := h2
  clear h1 h2
  by_cases hb3 : 1048576 < s.size
  · go_enter Try.func5, Try.ntmps5
    go_wp2
    go_ret
    exact ⟨false, rfl, rfl⟩
  by_cases hb1 : 1048576 < n1
  · go_enter Try.func5, Try.ntmps5
    go_wp2
    go_ret
    exact ⟨false, rfl, rfl⟩
  go_enter Try.func5, Try.ntmps5
  go_wp2
  · go_ret
    exact ⟨false, rfl, rfl⟩
  go_loop [13, 14] (fun t i => ∃ (k : Nat) (z : Int), k ≤ n1 ∧ i = .int .i64 k ∧ t = .int .i64 z) (fun _ i => n1 - (intOf i).toNat)
  case atStart => exact ⟨0, _, by omega, rfl, rfl⟩
  case round =>
    obtain ⟨k, z, hk, rfl, rfl⟩ := hrel
    by_cases hlt : k < n1
    · obtain ⟨b, off, ha, hc⟩ := H1.out.2 (by omega)
      have hck := hc k hlt
      obtain ⟨sk, hsk⟩ : ∃ sk, sk = S1.getD k ByteArray.empty := ⟨_, rfl⟩
      rw [← hsk] at hck
      clear hc hsk
      subst ha
      go_wp2
      · go_ret
        exact ⟨false, rfl, rfl⟩
      · go_ret
        exact ⟨false, rfl, rfl⟩
      · go_round
        case rel => exact ⟨k + 1, _, by omega, by go_num, rfl⟩
        case measure => simp [intOf]; omega
    · by_cases hb2 : 1048576 < n2
      · go_wp2
        go_ret
        exact ⟨false, rfl, rfl⟩
      go_wp2
      · go_ret
        exact ⟨false, rfl, rfl⟩
      go_loop [13, 15] (fun t i => ∃ (k : Nat) (z : Int), k ≤ n2 ∧ i = .int .i64 k ∧ t = .int .i64 z) (fun _ i => n2 - (intOf i).toNat)
      case atStart => exact ⟨0, _, by omega, rfl, rfl⟩
      case round =>
        obtain ⟨k, z, hk, rfl, rfl⟩ := hrel
        by_cases hlt : k < n2
        · obtain ⟨b, off, ha, hc⟩ := H2.out.2 (by omega)
          have hck := hc k hlt
          obtain ⟨sk, hsk⟩ : ∃ sk, sk = S2.getD k ByteArray.empty := ⟨_, rfl⟩
          rw [← hsk] at hck
          clear hc hsk
          subst ha
          go_wp2
          · go_ret
            exact ⟨false, rfl, rfl⟩
          · go_ret
            exact ⟨false, rfl, rfl⟩
          · go_round
            case rel => exact ⟨k + 1, _, by omega, by go_num, rfl⟩
            case measure => simp [intOf]; omega
        · go_wp2
          go_ret
          exact ⟨true, rfl, rfl⟩

set_option maxHeartbeats 1000000 in
theorem bytes10_any (s : ByteArray) (x y z : Value) (a1 : Option Addr) (n1 c1 : Nat) (S1 : List ByteArray) (a2 : Option Addr) (n2 c2 : Nat) (S2 : List ByteArray) (w : World)
    (hs : s.size ≤ maxLen) (h1 : Strs w a1 n1 S1) (h2 : Strs w a2 n2 S2) :
    Calls Try.prog 10 #[.string s, x, y, z, .slice a1 n1 c1, .slice a2 n2 c2] w (Some1 w) := by
  unfold maxLen at hs
  have H1 : Hid (Strs w a1 n1 S1) := h1
  have H2 : Hid (Strs w a2 n2 S2) := h2
  clear h1 h2
  by_cases hb3 : 1048576 < s.size
  · go_enter Try.func10, Try.ntmps10
    go_wp2
    go_ret
    exact ⟨false, rfl, rfl⟩
  by_cases hb1 : 1048576 < n1
  · go_enter Try.func10, Try.ntmps10
    go_wp2
    go_ret
    exact ⟨false, rfl, rfl⟩
  go_enter Try.func10, Try.ntmps10
  go_wp2
  · go_ret
    exact ⟨false, rfl, rfl⟩
  go_loop [13, 14] (fun t i => ∃ (k : Nat) (z : Int), k ≤ n1 ∧ i = .int .i64 k ∧ t = .int .i64 z) (fun _ i => n1 - (intOf i).toNat)
  case atStart => exact ⟨0, _, by omega, rfl, rfl⟩
  case round =>
    obtain ⟨k, z, hk, rfl, rfl⟩ := hrel
    by_cases hlt : k < n1
    · obtain ⟨b, off, ha, hc⟩ := H1.out.2 (by omega)
      have hck := hc k hlt
      obtain ⟨sk, hsk⟩ : ∃ sk, sk = S1.getD k ByteArray.empty := ⟨_, rfl⟩
      rw [← hsk] at hck
      clear hc hsk
      subst ha
      go_wp2
      · go_ret
        exact ⟨false, rfl, rfl⟩
      · go_ret
        exact ⟨false, rfl, rfl⟩
      · go_round
        case rel => exact ⟨k + 1, _, by omega, by go_num, rfl⟩
        case measure => simp [intOf]; omega
    · by_cases hb2 : 1048576 < n2
      · go_wp2
        go_ret
        exact ⟨false, rfl, rfl⟩
      go_wp2
      · go_ret
        exact ⟨false, rfl, rfl⟩
      go_loop [13, 15] (fun t i => ∃ (k : Nat) (z : Int), k ≤ n2 ∧ i = .int .i64 k ∧ t = .int .i64 z) (fun _ i => n2 - (intOf i).toNat)
      case atStart => exact ⟨0, _, by omega, rfl, rfl⟩
      case round =>
        obtain ⟨k, z, hk, rfl, rfl⟩ := hrel
        by_cases hlt : k < n2
        · obtain ⟨b, off, ha, hc⟩ := H2.out.2 (by omega)
          have hck := hc k hlt
          obtain ⟨sk, hsk⟩ : ∃ sk, sk = S2.getD k ByteArray.empty := ⟨_, rfl⟩
          rw [← hsk] at hck
          clear hc hsk
          subst ha
          go_wp2
          · go_ret
            exact ⟨false, rfl, rfl⟩
          · go_ret
            exact ⟨false, rfl, rfl⟩
          · go_round
            case rel => exact ⟨k + 1, _, by omega, by go_num, rfl⟩
            case measure => simp [intOf]; omega
        · go_wp2
          go_ret
          exact ⟨true, rfl, rfl⟩

theorem quo_some (a : Nat) (h : (FloatKind.f64.format.order a a == some .eq) = true) : ∃ r, floatBits .quo .f64 4607182418800017408 a = some r := by
  have e : FloatKind.f64.format.read 4607182418800017408 = .number false 4503599627370496 (-52) := by decide +kernel
  simp only [floatBits, Ieee.Format.div, e]
  simp only [Ieee.Format.order] at h
  generalize FloatKind.f64.format.read a = d at h ⊢
  cases d with
  | nan s t => simp [Ieee.Datum.order] at h
  | infinity s => exact ⟨_, rfl⟩
  | number s n j =>
    simp only [Ieee.Datum.quotient]
    split
    · exact ⟨_, rfl⟩
    · exact ⟨_, rfl⟩

set_option maxHeartbeats 400000 in
theorem same_any (a : Nat) (w : World) :
    Calls Try.prog 9 #[.float .f64 a, .float .f64 a] w fun e w' => e = .returned (.bool true) ∧ w = w' := by
  cases h : (FloatKind.f64.format.order a a == some .eq)
  · have h' : (FloatKind.f64.format.order a a != some .eq) = true := by simp only [bne, h]; rfl
    go_enter Try.func9, Try.ntmps9
    go_wp2
    go_ret
    exact ⟨rfl, rfl⟩
  · have h' : (FloatKind.f64.format.order a a != some .eq) = false := by simp only [bne, h]; rfl
    obtain ⟨r, hr⟩ := quo_some a h
    have hq := fun w => run_float_arith (P := Try.prog) w .quo 22 .f64 4607182418800017408 a r hr
    clear hr
    cases h0 : (FloatKind.f64.format.order a 0 == some .eq)
    · go_enter Try.func9, Try.ntmps9
      go_wp2
      go_ret
      exact ⟨rfl, rfl⟩
    · go_enter Try.func9, Try.ntmps9
      go_wp2
      go_ret
      exact ⟨rfl, rfl⟩

end Go.Proofs.Qxb6630595a
