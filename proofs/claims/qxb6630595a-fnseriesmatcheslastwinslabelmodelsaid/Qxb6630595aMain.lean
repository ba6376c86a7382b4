/-
  THE WALK of FnSeriesMatchesLastWinsLabelModel.
-/
import Derived.Test.Qxb6630595aMake
import Derived.Test.Qxb6630595aSeries
import Derived.Test.Qxb6630595aCopy
import Derived.Deep.DeepCutAuto
import Derived.Deep.QuietTactic
import Derived.BigQuiet
namespace Go.Proofs.Qxb6630595a
open Go.RowKit Go.Maps

attribute [local go_sem] run_store_float

/-- What a law's function leaves: true, and nothing old has turned. -/
def Good (w : World) (e : Ending) (w' : World) : Prop := e = .returned (.bool true) ∧ Below w.heap.size w w'

set_option maxHeartbeats 2000000 in
set_option maxRecDepth 100000 in
theorem main_any (s : ByteArray) (a : Nat) (l : Int) (br : Bool) (a1 : Option Addr) (n1 c1 : Nat) (N : List ByteArray) (a2 : Option Addr) (n2 c2 : Nat) (V : List ByteArray) (w : World)
    (hs : s.size ≤ maxLen) (h1 : Strs w a1 n1 N) (h2 : Strs w a2 n2 V) (hN : ∀ i, (N.getD i ByteArray.empty).size ≤ maxLen) (hV : ∀ i, (V.getD i ByteArray.empty).size ≤ maxLen) :
    Calls Try.prog 3 #[.string s, .float .f64 a, .int .i64 l, .bool br, .slice a1 n1 c1, .slice a2 n2 c2] w (Good w) := by
  have H1 := hid h1
  have H2 := hid h2
  have HN := hid hN
  have HV := hid hV
  have HSZ := hid hs
  clear h1 h2 hN hV hs
  go_enter Try.func3, Try.ntmps3
  go_wp2_with fail
  refine (bytes5_any _ _ _ _ _ _ _ N _ _ _ V _ HSZ.out H1.out H2.out).mono ?_
  rintro e w' ⟨b, rfl, rfl⟩
  cases b
  · go_wp2_with fail
    go_ret
    exact ⟨rfl, Below.refl _ _⟩
  go_wp2_with fail
  refine (toobig_any _ _ _ _ N _ _ _ V _ HSZ.out H1.out H2.out).mono ?_
  rintro e w' ⟨b, rfl, hsm, rfl⟩
  cases b
  rotate_left
  · go_wp2_with fail
    go_ret
    exact ⟨rfl, Below.refl _ _⟩
  obtain ⟨hn1, hn2⟩ := hsm rfl
  by_cases hnn : n1 = n2
  rotate_left
  · have hb : ((n1 : Int) != (n2 : Int)) = true := by rw [bne_iff_ne]; omega
    clear hnn
    go_wp2_with fail
    go_ret
    exact ⟨rfl, Below.refl _ _⟩
  subst hnn
  clear hn2 hsm
  obtain ⟨i0, hi, hz0, hz1, hz2⟩ := info_parts info9
  have hby : i0.bytes * n1 ≤ 281474976710656 := by rw [hz2]; omega
  have HI := hid hi
  have HZ0 := hid hz0
  have HZ1 := hid hz1
  clear hi hz0 hz1 hz2
  go_upto_if 41 with fail
  go_cut [4] (fun s4 wc => ∃ (a4 : Option Addr) (c4 : Nat), s4 = .slice a4 n1 c4 ∧ Hid (Strs wc a4 n1 N) ∧ Hid (Below w.heap.size w wc))
  case first =>
    cases a1 with
    | none =>
      go_wp2_with fail
      go_meet
      case rel => exact ⟨none, c1, rfl, H1, Below.refl _ _⟩
    | some ad =>
      go_wp2_with (at_make; refine wpList_make_full _ rfl _ _ 23 rfl w.heap.size 9 i0 _ 1 Try.underlying23 HI.out HZ0.out HZ1.out _ _ _ _ n1 rfl rfl rfl rfl hby (by unfold maxLen; omega) (Nat.le_refl _) ?_; intro w1 hown1 hgrow1; obtain ⟨cur, hcl, hcr⟩ := made_row hown1; obtain ⟨w2, hrun, hS2, hB2⟩ := copy_run (c := c1) H1.out ((Below.refl w.heap.size w).grown hgrow1 (Nat.le_refl _) (fun j hj => by cases hj)) hcr hcl (Nat.le_refl _); have HS2 := hid hS2; have HB2 := hid hB2; clear hown1 hgrow1 hcl hcr hS2 hB2)
      go_meet
      case rel => exact ⟨_, _, rfl, HS2, HB2⟩
  case rest =>
    obtain ⟨a4, c4, rfl, HS4, HB4⟩ := hcut
    have HV5 := hid (H2.out.below (Nat.le_refl _) HB4.out)
    have hwc := HB4.out.size
    go_upto_if 50 with fail
    go_cut [5] (fun s5 wd => ∃ (a5 : Option Addr) (c5 : Nat), s5 = .slice a5 n1 c5 ∧ Hid (Strs wd a4 n1 N) ∧ Hid (Strs wd a5 n1 V) ∧ Hid (Below w.heap.size w wd))
    case first =>
      cases a2 with
      | none =>
        go_wp2_with fail
        go_meet
        case rel => exact ⟨none, c2, rfl, HS4, HV5, HB4⟩
      | some ad =>
        go_wp2_with (at_make; refine wpList_make_full _ rfl _ _ 23 rfl wc.heap.size 9 i0 _ 1 Try.underlying23 HI.out HZ0.out HZ1.out _ _ _ _ n1 rfl rfl rfl rfl hby (by unfold maxLen; omega) (Nat.le_refl _) ?_; intro w1 hown1 hgrow1; obtain ⟨cur, hcl, hcr⟩ := made_row hown1; obtain ⟨w2, hrun, hS2, hB2⟩ := copy_run (c := c2) HV5.out ((Below.refl wc.heap.size wc).grown hgrow1 (Nat.le_refl _) (fun j hj => by cases hj)) hcr hcl (Nat.le_refl _); have HS2 := hid hS2; have HB2 := hid hB2; clear hown1 hgrow1 hcl hcr hS2 hB2)
        go_meet
        case rel => exact ⟨_, _, rfl, HS4.out.below (Nat.le_refl _) HB2.out, HS2, HB4.out.trans (HB2.out.mono hwc)⟩
    case rest =>
      obtain ⟨a5, c5, rfl, HS, HV2, HB⟩ := hcut
      clear HV5 hwc HS4 HB4
      clear hby HI HZ0 HZ1
      have q28 := fun (w : World) (r : Option Nat) => run_eql_map_nil (P := Try.prog) w 28 9 9 r Try.underlying28
      go_wp2_with fail
      cases br
      · refine (make_bare s a l _ _ _).mono ?_
        rintro e w1 ⟨rfl, hw1⟩
        have HSA : Hid (SampleAt w1 wc.heap.size s a l (.slice none 0 0)) := by rw [hw1]; exact SampleAt.made wc s a l _
        have HB1 : Hid (Below w.heap.size w w1) := by rw [hw1]; exact HB.out.alloc HB.out.size _
        clear hw1
        go_wp2_with fail
        refine (series_bare _ s a l _ HSA.out).mono ?_
        rintro e w2 ⟨rfl, hb2⟩
        have HB2 : Hid (Below w.heap.size w w2) := HB1.out.trans (hb2.mono HB1.out.size)
        clear hb2
        go_wp2_with (go_at_call 9; refine (same_any a _).mono ?_; rintro e w' ⟨rfl, rfl⟩)
        go_ret
        exact ⟨rfl, HB2.out.alloc HB2.out.size _⟩
      · refine (make_any s a l a4 n1 c4 N a5 c5 V _ hn1 HS.out HV2.out).mono ?_
        rintro e w1 ⟨g, cap, rfl, hSA, hO, hb1⟩
        have HSA := hid hSA
        have HO := hid hO
        have HB1 := hid hb1
        clear hSA hO hb1
        go_wp2_with fail
        refine (series_any _ s a l n1 g cap _ N V _ hn1 HSA.out HO.out HN.out HV.out).mono ?_
        rintro e w2 ⟨he, hM, hb2⟩
        obtain ⟨M, hMe⟩ : ∃ M, M = w1.heap.size + 2 := ⟨_, rfl⟩
        rw [← hMe] at he hM
        subst he
        have hwB : w.heap.size ≤ M := by have h1 := HB.out.size; have h2 := HB1.out.size; omega
        have HST : Hid (Stage w w2 M n1 N V a4 a5) := ⟨(HS.out.below (Nat.le_refl _) HB1.out).below (Nat.le_refl _) hb2, (HV2.out.below (Nat.le_refl _) HB1.out).below (Nat.le_refl _) hb2, hM, (HB.out.trans (HB1.out.mono HB.out.size)).trans (hb2.mono (Nat.le_trans HB.out.size HB1.out.size))⟩
        clear hM hb2 hMe HSA HO HB1 HS HV2 HB
        go_wp2_with (go_at_call 9; refine (same_any a _).mono ?_; rintro e w' ⟨rfl, rfl⟩)
        have HSE : Hid (SeriesAt (w2.alloc (.cells #[.string s, .map (some M), .float .f64 a, .int .i64 l] 30)) w2.heap.size s (.map (some M)) a l) := heap_alloc_new w2 _
        have HST2 := hid (HST.out.alloc (.cells #[.string s, .map (some M), .float .f64 a, .int .i64 l] 30))
        have HL := hid HST.out.1.1
        clear HST H1 H2 HV HSZ q28
        go_loopw [17, 18] (fun d i wr => ∃ k dd : Nat, k ≤ n1 ∧ dd ≤ k ∧ i = .int .i64 k ∧ d = .int .i64 dd ∧ Hid (dd + lasts ((txt N).drop k) = lasts (txt N)) ∧ Hid (SeriesAt wr w2.heap.size s (.map (some M)) a l) ∧ Hid (Stage w wr M n1 N V a4 a5)) (fun _ i _ => n1 - (intOf i).toNat)
        case atStart => exact ⟨0, 0, Nat.zero_le _, Nat.zero_le _, rfl, rfl, (by show 0 + lasts ((txt N).drop 0) = _; rw [List.drop_zero, Nat.zero_add]), HSE, HST2⟩
        case round =>
          obtain ⟨k, dd, hk, hdk, rfl, rfl, HD, HE, HG⟩ := hrel
          clear HSE HST2
          by_cases hlt : k < n1
          · obtain ⟨b4, o4, ha4, hc4⟩ := HG.out.1.2 (by omega)
            obtain ⟨b5, o5, ha5, hc5⟩ := HG.out.2.1.2 (by omega)
            subst ha4 ha5
            clear hc4 hc5
            go_wp2
            go_loopw [19, 20] (fun later j wi => ∃ t : Nat, k < t ∧ t ≤ n1 ∧ j = .int .i64 t ∧ later = .bool false ∧ Hid (∀ u, k < u → u < t → nm N u ≠ nm N k) ∧ Hid (SeriesAt wi w2.heap.size s (.map (some M)) a l) ∧ Hid (Stage w wi M n1 N V (some ⟨b4, o4, none⟩) (some ⟨b5, o5, none⟩))) (fun _ j _ => n1 - (intOf j).toNat)
            case atStart => exact ⟨k + 1, by omega, by omega, by go_num, rfl, fun u h1 h2 => absurd h2 (by omega), HE, HG⟩
            case round =>
              obtain ⟨t, hkt, htn, rfl, rfl, HNO, HE2, HG2⟩ := hrel
              have hck := HG2.out.1.at hlt
              obtain ⟨xk, hxk⟩ : ∃ x, x = nm N k := ⟨_, rfl⟩
              rw [← hxk] at hck
              have HXK := hid hxk
              clear hxk
              by_cases htl : t < n1
              · have hct := HG2.out.1.at htl
                have hk0 : (0 : Int) ≤ (k : Int) := Int.natCast_nonneg _
                have hk1 : (k : Int) < (n1 : Int) := by omega
                have ht0 : (0 : Int) ≤ (t : Int) := Int.natCast_nonneg _
                have ht1 : (t : Int) < (n1 : Int) := by omega
                by_cases heq : nm N t = nm N k
                · rw [heq, ← HXK.out] at hct
                  have HEQ := hid heq
                  clear heq
                  go_wp2_with fail
                  go_quiet (fail)
                  go_wp2_with fail
                  go_roundw
                  case rel => exact ⟨k + 1, dd, by omega, by omega, by go_num, rfl, lasts_again HD.out hkt (by rw [HL.out]; exact htl) HEQ.out, HE2.out.drewN _, HG2.out.drewN _⟩
                  case measure => simp [intOf]; omega
                · obtain ⟨xt, hxt⟩ : ∃ x, x = nm N t := ⟨_, rfl⟩
                  rw [← hxt] at hct
                  have HNE := hid heq
                  have hne : (xt.toList == xk.toList) = false := text_ne (by rw [hxt, HXK.out]; exact heq)
                  clear hxt heq
                  go_wp2_with fail
                  go_quiet (fail)
                  go_wp2_with fail
                  go_roundw
                  case rel => exact ⟨t + 1, by omega, by omega, by go_num, rfl, fun u h1 h2 => (Nat.lt_succ_iff_lt_or_eq.1 h2).elim (fun h => HNO.out u h1 h) (fun h => by rw [h]; exact HNE.out), HE2.out.drewN _, HG2.out.drewN _⟩
                  case measure => simp [intOf]; omega
              · have HLK := hid (fun q => (HG2.out.drewN q).look HN.out hlt (fun j h1 h2 => HNO.out j h1 (by omega)))
                have hlk := HLK.out
                rw [← HXK.out] at hlk
                have hcv := HG2.out.2.1.at hlt
                obtain ⟨vk, hvk⟩ : ∃ x, x = nm V k := ⟨_, rfl⟩
                rw [← hvk] at hcv hlk
                clear hvk
                have he1 := HE2.out.cell1
                have hk0 : (0 : Int) ≤ (k : Int) := Int.natCast_nonneg _
                have hk1 : (k : Int) < (n1 : Int) := by omega
                go_wp2_with fail
                go_quiet (fail)
                go_wp2_with fail
                go_roundw
                case rel => exact ⟨k + 1, dd + 1, by omega, by omega, by go_num, by go_num, lasts_last HD.out (by rw [HL.out]; exact hlt) (fun j h1 h2 => HNO.out j h1 (by rw [HL.out] at h2; omega)), HE2.out.drewN _, HG2.out.drewN _⟩
                case measure => simp [intOf]; omega
          · have he1 := HE.out.cell1
            have hsz : Hid (Maps.size (fill N V n1) = dd) := by
              show _ = _
              rw [← HL.out, size_all]
              exact (lasts_end HD.out (by rw [HL.out]; omega)).symm
            have hlen := HG.out.2.2.1.len Try.underlying28 3
            rw [hsz.out] at hlen
            go_wp2
            go_ret
            exact ⟨by simp, HG.out.2.2.2⟩

end Go.Proofs.Qxb6630595a
