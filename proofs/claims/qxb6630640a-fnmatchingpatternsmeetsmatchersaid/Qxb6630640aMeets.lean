/-
  THE WALK of FnMatchingPatternsMeetsMatcher.
-/
import Derived.Test.Qxb6630640aMatch
namespace Go.Proofs.Qxb6630640a
open Go.RowKit

/-- What a law's function leaves: true, and nothing old has turned. -/
def Fine (w : World) (e : Ending) (w' : World) : Prop := e = .returned (.bool true) ∧ Below w.heap.size w w'

theorem cnt_next {L : List ByteArray} {k c : Nat} {p : ByteArray} (hc : c = cnt (L.take k) p) (h : k < L.length) : c + b2n (decide ((nm L k).data.toList = p.data.toList)) = cnt (L.take (k + 1)) p := by
  rw [List.take_succ_eq_append_getElem h, cnt_append, cnt_one, nm_lt h, hc]

theorem pats_size {t x : ByteArray} (h : x ∈ pats t) : x.size ≤ t.size + 2 := by
  rcases List.mem_cons.1 h with rfl | h
  · show 1 ≤ _; omega
  · rcases List.mem_cons.1 h with rfl | h
    · omega
    · obtain ⟨i, _, hi, _, rfl⟩ := mem_pre h
      rw [size_pat (by omega)]; omega

theorem strs_drewN {w : World} {g : Nat} {L : List ByteArray} (h : Strs w g L) (q : Nat) : Strs (w.drewN q) g L := h
theorem below_drewN' {B : Nat} {w wr : World} (h : Below B w wr) (q : Nat) : Below B w (wr.drewN q) := ⟨h.os, h.tape, h.output, h.size, h.block⟩

set_option maxRecDepth 100000 in
set_option maxHeartbeats 2000000 in
theorem meets_any (t p : ByteArray) (ht : t.size ≤ maxLen) (hp : p.size ≤ maxLen) (w : World) :
    Calls Try.prog 4 #[.string t, .string p] w (Fine w) := by
  have HT := hid ht
  have HP := hid hp
  have ht' : t.size ≤ 9223372036854775807 := ht
  have hp' : p.size ≤ 9223372036854775807 := hp
  clear ht hp
  go_enter Try.func4, Try.ntmps4
  go_wp2_with fail
  refine (bytes7_any t p HT.out HP.out _).mono ?_
  rintro e w' ⟨b, rfl, rfl⟩
  cases b
  · go_wp2_with fail
    go_ret
    exact ⟨rfl, Below.refl _ _⟩
  by_cases h1 : 2048 < t.size
  · go_wp2_with fail
    go_ret
    exact ⟨rfl, Below.refl _ _⟩
  by_cases h2 : 2048 < p.size
  · go_wp2_with fail
    go_ret
    exact ⟨rfl, Below.refl _ _⟩
  clear ht' hp'
  have d1 : decide (2048 < (t.size : Int)) = false := by simp; omega
  have d2 : decide (2048 < (p.size : Int)) = false := by simp; omega
  go_wp2_with fail
  refine (list_any t (by omega) _).mono ?_
  rintro e wa ⟨g, cp, rfl, hS, hB⟩
  have HS := hid hS
  have HB := hid hB
  obtain ⟨n, hn⟩ : ∃ n, n = (pats t).length := ⟨_, rfl⟩
  rw [← hn]
  have HN := hid hn
  clear hS hB hn
  have hnb : n ≤ 5000 := by rw [HN.out]; show (pre t t.size).length + 2 ≤ _; have := pre_le t t.size; omega
  go_wp2_with fail
  clear d1 d2
  go_loopw [6, 7] (fun nn i wr => ∃ k c : Nat, k ≤ n ∧ c ≤ k ∧ i = .int .i64 k ∧ nn = .int .i64 c ∧ Hid (c = cnt ((pats t).take k) p) ∧ Hid (Strs wr g (pats t)) ∧ Hid (Below w.heap.size w wr)) (fun _ i _ => n - (intOf i).toNat)
  case atStart => exact ⟨0, 0, Nat.zero_le _, Nat.le_refl _, rfl, rfl, rfl, HS, HB⟩
  case round =>
    obtain ⟨k, c, hk, hck, rfl, rfl, HC, HSk, HBk⟩ := hrel
    clear HS HB
    by_cases hlt : k < n
    · have hll : k < (pats t).length := by rw [← HN.out]; exact hlt
      have hcell := HSk.out.2 k hll
      have hx := cnt_next HC.out hll
      have hmem : nm (pats t) k ∈ pats t := by rw [nm_lt hll]; exact List.getElem_mem hll
      have hpos := mc_pos hmem
      have hsz := pats_size hmem
      obtain ⟨x, hxe⟩ : ∃ x, x = nm (pats t) k := ⟨_, rfl⟩
      rw [← hxe] at hcell hx hpos hsz
      have HX := hid hx
      have hne : ((mc x t : Int) == 0) = false := beq_eq_false_iff_ne.2 (by omega)
      obtain ⟨v, hv⟩ : ∃ v, v = mc x t := ⟨_, rfl⟩
      have HM : Hid (∀ w, Calls Try.prog 8 #[.string x, .string t] w (Counted w v)) := by
        show ∀ w, _
        rw [hv]; exact match_any x t (by omega)
      rw [← hv] at hne
      clear hx hmem hpos hsz hxe hv
      cases hb : (x.toList == p.toList)
      · have HX2 : Hid (c = cnt ((pats t).take (k + 1)) p) := by
          have h := HX.out
          rw [← beq_text, hb] at h
          exact h
        go_wp2_with fail
        refine (HM.out _).mono ?_
        rintro e w2 ⟨rfl, q, rfl⟩
        go_wp2_with fail
        go_roundw
        case rel => exact ⟨k + 1, c, by omega, by omega, by go_num, rfl, HX2, strs_drewN HSk.out _, below_drewN' HBk.out _⟩
        case measure => simp [intOf]; omega
      · have HX2 : Hid (c + 1 = cnt ((pats t).take (k + 1)) p) := by
          have h := HX.out
          rw [← beq_text, hb] at h
          exact h
        go_wp2_with fail
        refine (HM.out _).mono ?_
        rintro e w2 ⟨rfl, q, rfl⟩
        go_wp2_with fail
        go_roundw
        case rel => exact ⟨k + 1, c + 1, by omega, by omega, by go_num, by go_num, HX2, strs_drewN HSk.out _, below_drewN' HBk.out _⟩
        case measure => simp [intOf]; omega
    · have HE : Hid (c = mc p t) := by
        show _ = _
        rw [HC.out, ← cnt_pats, List.take_of_length_le (by rw [← HN.out]; omega)]
      go_wp2_with fail
      refine (match_any p t (by omega) _).mono ?_
      rintro e w2 ⟨rfl, q, rfl⟩
      rw [← HE.out]
      go_wp2_with fail
      go_ret
      exact ⟨by simp, below_drewN' HBk.out _⟩

end Go.Proofs.Qxb6630640a
