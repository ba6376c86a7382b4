/-
  THE WALK of FnMatchingPatternsCut.
-/
import Derived.Test.Qxb6630640aWalks
import Derived.Test.Qxb6630640aPlain2
import Derived.Deep.QuietTactic
import Derived.BigQuiet
namespace Go.Proofs.Qxb6630640a
open Go.RowKit

/-- The three lists in memory. -/
def Three (w wr : World) (gW gL gR : Nat) (t u : ByteArray) : Prop :=
  Strs wr gW (pats (t ++ u)) ∧ Strs wr gL (pats t) ∧ Strs wr gR (pats (ex ++ u)) ∧ Below w.heap.size w wr

theorem Three.drewN {w wr : World} {gW gL gR : Nat} {t u : ByteArray} (h : Three w wr gW gL gR t u) (q : Nat) : Three w (wr.drewN q) gW gL gR t u :=
  ⟨h.1, h.2.1, h.2.2.1, ⟨h.2.2.2.os, h.2.2.2.tape, h.2.2.2.output, h.2.2.2.size, h.2.2.2.block⟩⟩

/-- What a law's function leaves: true, and nothing old has turned. -/
def Good (w : World) (e : Ending) (w' : World) : Prop := e = .returned (.bool true) ∧ Below w.heap.size w w'

theorem pats_len (t : ByteArray) : (pats t).length = (pre t t.size).length + 2 := rfl

theorem keep_false {t r : ByteArray} (h : keep t r = false) : t.size = 0 ∧ r.size = 3 := by
  unfold keep at h
  by_cases h0 : t.size = 0
  · by_cases h3 : r.size = 3
    · exact ⟨h0, h3⟩
    · rw [decide_eq_false h3, Bool.and_false] at h; cases h
  · rw [decide_eq_false h0, Bool.false_and] at h; cases h

set_option maxRecDepth 100000 in
set_option maxHeartbeats 2000000 in
theorem cut_any (t u : ByteArray) (ht : t.size ≤ maxLen) (hu : u.size ≤ maxLen) (w : World) :
    Calls Try.prog 3 #[.string t, .string u] w (Good w) := by
  have HT := hid ht
  have HU := hid hu
  have ht' : t.size ≤ 9223372036854775807 := ht
  have hu' : u.size ≤ 9223372036854775807 := hu
  clear ht hu
  go_enter Try.func3, Try.ntmps3
  go_wp2_with fail
  refine (bytes5_any t u HT.out HU.out _).mono ?_
  rintro e w' ⟨b, rfl, rfl⟩
  cases b
  · go_wp2_with fail
    go_ret
    exact ⟨rfl, Below.refl _ _⟩
  by_cases h1 : 2048 < t.size
  · go_wp2_with fail
    go_ret
    exact ⟨rfl, Below.refl _ _⟩
  by_cases h2 : 2048 < u.size
  · go_wp2_with fail
    go_ret
    exact ⟨rfl, Below.refl _ _⟩
  clear ht' hu'
  have d1 : decide (2048 < (t.size : Int)) = false := by simp; omega
  have d2 : decide (2048 < (u.size : Int)) = false := by simp; omega
  go_wp2_with fail
  refine (list_any (t ++ u) (by rw [size_app]; omega) _).mono ?_
  rintro e wa ⟨gW, cW, rfl, hSW, hBa⟩
  have HSW := hid hSW
  have HBa := hid hBa
  obtain ⟨nW, hnW⟩ : ∃ n, n = (pats (t ++ u)).length := ⟨_, rfl⟩
  rw [← hnW]
  have HNW := hid hnW
  clear hSW hBa hnW
  go_wp2_with fail
  refine (list_any t (by omega) _).mono ?_
  rintro e wb ⟨gL, cL, rfl, hSL, hBb⟩
  have HSL := hid hSL
  have HSW2 := hid (HSW.out.below hBb)
  have HBb := hid (HBa.out.trans (hBb.mono HBa.out.size))
  obtain ⟨nL, hnL⟩ : ∃ n, n = (pats t).length := ⟨_, rfl⟩
  rw [← hnL]
  have HNL := hid hnL
  clear hSL hBb hnL HSW HBa
  go_wp2_with fail
  refine (list_any (ex ++ u) (by rw [size_app, size_ex]; omega) _).mono ?_
  rintro e wc ⟨gR, cR, rfl, hSR, hBc⟩
  have HTH : Hid (Three w wc gW gL gR t u) := ⟨HSW2.out.below hBc, HSL.out.below hBc, hSR, HBb.out.trans (hBc.mono HBb.out.size)⟩
  obtain ⟨nR, hnR⟩ : ∃ n, n = (pats (ex ++ u)).length := ⟨_, rfl⟩
  rw [← hnR]
  have HNR := hid hnR
  clear hSR hBc hnR HSW2 HSL HBb
  have hW2 : 2 ≤ nW := by rw [HNW.out, pats_len]; omega
  have hL2 : 2 ≤ nL := by rw [HNL.out, pats_len]; omega
  have hR2 : 2 ≤ nR := by rw [HNR.out, pats_len]; omega
  have hWb : nW ≤ 5000 := by rw [HNW.out, pats_len]; have h := pre_le (t ++ u) (t ++ u).size; have e := size_app t u; omega
  have hLb : nL ≤ 5000 := by rw [HNL.out, pats_len]; have := pre_le t t.size; omega
  have hRb : nR ≤ 5000 := by rw [HNR.out, pats_len]; have h := pre_le (ex ++ u) (ex ++ u).size; have e := size_app ex u; rw [size_ex] at e; omega
  have hLW : nL ≤ nW := by rw [HNW.out, whole_len, HNL.out, pats_len]; omega
  have d3 : decide ((nW : Int) < 2) = false := by simp; omega
  have d4 : decide ((nL : Int) < 2) = false := by simp; omega
  have d5 : decide ((nR : Int) < 2) = false := by simp; omega
  have w0 : wc.cell? ⟨gW, 0, none⟩ = some (.string { data := #[42] }) := HTH.out.1.2 0 (by rw [← HNW.out]; omega)
  have w1 : wc.cell? ⟨gW, 1, none⟩ = some (.string (t ++ u)) := HTH.out.1.2 1 (by rw [← HNW.out]; omega)
  have l0 : wc.cell? ⟨gL, 0, none⟩ = some (.string { data := #[42] }) := HTH.out.2.1.2 0 (by rw [← HNL.out]; omega)
  have l1 : wc.cell? ⟨gL, 1, none⟩ = some (.string t) := HTH.out.2.1.2 1 (by rw [← HNL.out]; omega)
  have r0 : wc.cell? ⟨gR, 0, none⟩ = some (.string { data := #[42] }) := HTH.out.2.2.1.2 0 (by rw [← HNR.out]; omega)
  have r1 : wc.cell? ⟨gR, 1, none⟩ = some (.string ({ data := #[120] } ++ u)) := HTH.out.2.2.1.2 1 (by rw [← HNR.out]; omega)
  go_wp2_with fail
  clear w0 w1 l0 l1 r0 r1 d1 d2 d3 d4 d5
  go_loopw [9, 10] (fun k i wr => ∃ m : Nat, 2 ≤ m ∧ m ≤ nL ∧ i = .int .i64 m ∧ k = .int .i64 m ∧ Hid (Three w wr gW gL gR t u)) (fun _ i _ => nL - (intOf i).toNat)
  case atStart => exact ⟨2, by omega, by omega, rfl, rfl, HTH⟩
  case round =>
    obtain ⟨m, hm2, hmL, rfl, rfl, HT3⟩ := hrel
    clear HTH
    by_cases hlt : m < nL
    · have hcW := HT3.out.1.2 m (by rw [← HNW.out]; omega)
      have hcL := HT3.out.2.1.2 m (by rw [← HNL.out]; omega)
      have e : nm (pats (t ++ u)) m = nm (pats t) m := by
        obtain ⟨i, rfl⟩ : ∃ i, m = i + 2 := ⟨m - 2, by omega⟩
        exact whole_left t u (by have h := HNL.out; rw [pats_len] at h; omega)
      rw [e] at hcW
      clear e
      obtain ⟨x, hx⟩ : ∃ x, x = nm (pats t) m := ⟨_, rfl⟩
      rw [← hx] at hcW hcL
      clear hx
      have hg : decide (nW ≤ m) = false := by simp; omega
      have hk0 : (0 : Int) ≤ (m : Int) := Int.natCast_nonneg _
      have hk1 : (m : Int) < (nW : Int) := by omega
      have hk2 : (m : Int) < (nL : Int) := by omega
      go_wp2_with fail
      go_quiet (fail)
      go_wp2_with fail
      go_roundw
      case rel => exact ⟨m + 1, by omega, by omega, by go_num, by go_num, HT3.out.drewN _⟩
      case measure => simp [intOf]; omega
    · have HP : Hid (m = (pre t t.size).length + 2) := by show _ = _; have h := HNL.out; rw [pats_len] at h; omega
      go_wp2_with fail
      go_loopw [9, 11] (fun k i wr => ∃ j kk : Nat, j + 2 ≤ nR ∧ kk ≤ 5000 + j ∧ i = .int .i64 ((j + 2 : Nat) : Int) ∧ k = .int .i64 kk ∧ Hid (kk = (pre t t.size).length + (kept t u j).length + 2) ∧ Hid (Three w wr gW gL gR t u)) (fun _ i _ => nR - (intOf i).toNat)
      case atStart => exact ⟨0, m, by omega, by omega, rfl, rfl, HP, HT3⟩
      case round =>
        obtain ⟨j, kk, hj, hkk, rfl, rfl, HK, HT4⟩ := hrel
        clear HT3
        have HRL : Hid (nR = (rest u).length + 2) := by show _ = _; rw [HNR.out, pats_len]; rfl
        by_cases hjr : j + 2 < nR
        · have hjl : j < (rest u).length := by have := HRL.out; omega
          have hcR := HT4.out.2.2.1.2 (j + 2) (by rw [← HNR.out]; omega)
          rw [show nm (pats (ex ++ u)) (j + 2) = nm (rest u) j from rfl] at hcR
          have hform := rest_form u hjl
          obtain ⟨r, hr⟩ : ∃ r, r = nm (rest u) j := ⟨_, rfl⟩
          rw [← hr] at hcR hform
          obtain ⟨hr3, hr120, hrs⟩ := hform
          have hx2 : (((r[0]'(by omega)).toNat : Int) != 120) = false := by
            rw [at_lt (show 0 < r.size by omega)] at hr120
            have e : ((r[0]'(by omega)).toNat : Int) = 120 := congrArg Int.ofNat hr120
            rw [e]; rfl
          have HR := hid hr
          clear hr hr120
          by_cases hk : keep t r = true
          · have hw := whole_right t u hjl (by rw [← HR.out]; exact hk)
            have hcW := HT4.out.1.2 ((pre t t.size).length + (kept t u j).length + 2) (by rw [whole_len]; omega)
            rw [hw.2, ← HR.out, ← HK.out] at hcW
            have hcW' : wr.cell? ⟨gW, kk, none⟩ = some (.string (t ++ r.extract 1 r.size)) := hcW
            have hkW : kk < nW := by rw [HNW.out, whole_len, HK.out]; have := hw.1; omega
            have HK2 : Hid (kk + 1 = (pre t t.size).length + (kept t u (j + 1)).length + 2) := by
              show _ = _
              rw [kept_hit hjl (by rw [← HR.out]; exact hk), List.length_append, HK.out]
              simp; omega
            clear hcW hw
            have hcase : ((t.size : Int) == 0) = false ∨ (((t.size : Int) == 0) = true ∧ ((r.size : Int) == 3) = false) := by
              unfold keep at hk
              by_cases h0 : t.size = 0
              · refine .inr ⟨beq_iff_eq.2 (by omega), beq_eq_false_iff_ne.2 (fun h3 => ?_)⟩
                rw [decide_eq_true h0, decide_eq_true (show r.size = 3 by omega)] at hk
                cases hk
              · exact .inl (beq_eq_false_iff_ne.2 (by omega))
            clear hk
            rcases hcase with hz | ⟨hz, hz3⟩
            · go_wp2_with fail
              go_roundw
              case rel => exact ⟨j + 1, kk + 1, by omega, by omega, by go_num, by go_num, HK2, HT4⟩
              case measure => simp [intOf]; omega
            · go_wp2_with fail
              go_roundw
              case rel => exact ⟨j + 1, kk + 1, by omega, by omega, by go_num, by go_num, HK2, HT4⟩
              case measure => simp [intOf]; omega
          · have hk' : keep t r = false := by simpa using hk
            have HK2 : Hid (kk = (pre t t.size).length + (kept t u (j + 1)).length + 2) := by
              show _ = _
              rw [kept_miss hjl (by rw [← HR.out]; exact hk')]; exact HK.out
            have hcase : ((t.size : Int) == 0) = true ∧ ((r.size : Int) == 3) = true := by
              obtain ⟨h0, h3⟩ := keep_false hk'
              exact ⟨beq_iff_eq.2 (by omega), beq_iff_eq.2 (by omega)⟩
            clear hk hk'
            obtain ⟨hz, hz3⟩ := hcase
            go_wp2_with fail
            go_roundw
            case rel => exact ⟨j + 1, kk, by omega, by omega, by go_num, rfl, HK2, HT4⟩
            case measure => simp [intOf]; omega
        · have hkW : kk = nW := by
            have h := HRL.out
            have h2 := HK.out
            rw [show j = (rest u).length by omega] at h2
            rw [HNW.out, whole_len, h2]
          have hb : ((kk : Int) == (nW : Int)) = true := beq_iff_eq.2 (by omega)
          clear hkW
          go_wp2_with fail
          go_ret
          exact ⟨rfl, HT4.out.2.2.2⟩

end Go.Proofs.Qxb6630640a
