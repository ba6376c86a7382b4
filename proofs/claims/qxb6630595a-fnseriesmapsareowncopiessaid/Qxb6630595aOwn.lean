/-
  THE WALK of FnSeriesMapsAreOwnCopies.
-/
import Derived.Test.Qxb6630595aMake
import Derived.Test.Qxb6630595aSeries
import Derived.Test.Qxb6630595aParts4
import Derived.Deep.DeepCutAuto
import Derived.Deep.QuietTactic
import Derived.BigQuiet
namespace Go.Proofs.Qxb6630595a
open Go.RowKit Go.Maps

attribute [local go_sem] run_store_float

/-- What a law's function leaves: true, and nothing old has turned. -/
def Good4 (w : World) (e : Ending) (w' : World) : Prop := e = .returned (.bool true) ∧ Below w.heap.size w w'

set_option maxHeartbeats 2000000 in
set_option maxRecDepth 100000 in
theorem copies_any (s : ByteArray) (a : Nat) (l : Int) (br : Bool) (a1 : Option Addr) (n1 c1 : Nat) (N : List ByteArray) (a2 : Option Addr) (n2 c2 : Nat) (V : List ByteArray) (w : World)
    (hs : s.size ≤ maxLen) (h1 : Strs w a1 n1 N) (h2 : Strs w a2 n2 V) (hN : ∀ i, (N.getD i ByteArray.empty).size ≤ maxLen) (hV : ∀ i, (V.getD i ByteArray.empty).size ≤ maxLen) :
    Calls Try.prog 4 #[.string s, .float .f64 a, .int .i64 l, .bool br, .slice a1 n1 c1, .slice a2 n2 c2] w (Good4 w) := by
  have H1 := hid h1
  have H2 := hid h2
  have HN := hid hN
  have HV := hid hV
  have HSZ := hid hs
  clear h1 h2 hN hV hs
  go_enter Try.func4, Try.ntmps4
  go_wp2_with fail
  refine (bytes10_any _ _ _ _ _ _ _ N _ _ _ V _ HSZ.out H1.out H2.out).mono ?_
  rintro e w' ⟨b, rfl, rfl⟩
  cases b
  · go_wp2_with fail
    go_ret
    exact ⟨rfl, Below.refl _ _⟩
  go_wp2_with fail
  refine (toobig_any _ _ _ _ N _ _ _ V _ HSZ.out H1.out H2.out).mono ?_
  rintro e w' ⟨b, rfl, hsm, rfl⟩
  cases b
  rotate_left
  · go_wp2_with fail
    go_ret
    exact ⟨rfl, Below.refl _ _⟩
  obtain ⟨hn1, hn2⟩ := hsm rfl
  by_cases hnn : n1 = n2
  rotate_left
  · have hb : ((n1 : Int) != (n2 : Int)) = true := by rw [bne_iff_ne]; omega
    clear hnn
    go_wp2_with fail
    go_ret
    exact ⟨rfl, Below.refl _ _⟩
  subst hnn
  clear hn2 hsm
  obtain ⟨i0, hi, hz0, hz1, hz2⟩ := info_parts info9
  have hby : i0.bytes * n1 ≤ 281474976710656 := by rw [hz2]; omega
  have HI := hid hi
  have HZ0 := hid hz0
  have HZ1 := hid hz1
  clear hi hz0 hz1 hz2
  go_upto_if 45 with fail
  go_cut [4] (fun s4 wc => ∃ (a4 : Option Addr) (c4 : Nat), s4 = .slice a4 n1 c4 ∧ Hid (Strs wc a4 n1 N) ∧ Hid (Below w.heap.size w wc))
  case first =>
    cases a1 with
    | none =>
      go_wp2_with fail
      go_meet
      case rel => exact ⟨none, c1, rfl, H1, Below.refl _ _⟩
    | some ad =>
      go_wp2_with (at_make; refine wpList_make_full _ rfl _ _ 23 rfl w.heap.size 9 i0 _ 1 Try.underlying23 HI.out HZ0.out HZ1.out _ _ _ _ n1 rfl rfl rfl rfl hby (by unfold maxLen; omega) (Nat.le_refl _) ?_; intro w1 hown1 hgrow1; obtain ⟨cur, hcl, hcr⟩ := made_row hown1; obtain ⟨w2, hrun, hS2, hB2⟩ := copy_run (c := c1) H1.out ((Below.refl w.heap.size w).grown hgrow1 (Nat.le_refl _) (fun j hj => by cases hj)) hcr hcl (Nat.le_refl _); have HS2 := hid hS2; have HB2 := hid hB2; clear hown1 hgrow1 hcl hcr hS2 hB2)
      go_meet
      case rel => exact ⟨_, _, rfl, HS2, HB2⟩
  case rest =>
    obtain ⟨a4, c4, rfl, HS4, HB4⟩ := hcut
    have HV5 := hid (H2.out.below (Nat.le_refl _) HB4.out)
    have hwc := HB4.out.size
    go_upto_if 54 with fail
    go_cut [5] (fun s5 wd => ∃ (a5 : Option Addr) (c5 : Nat), s5 = .slice a5 n1 c5 ∧ Hid (Strs wd a4 n1 N) ∧ Hid (Strs wd a5 n1 V) ∧ Hid (Below w.heap.size w wd))
    case first =>
      cases a2 with
      | none =>
        go_wp2_with fail
        go_meet
        case rel => exact ⟨none, c2, rfl, HS4, HV5, HB4⟩
      | some ad =>
        go_wp2_with (at_make; refine wpList_make_full _ rfl _ _ 23 rfl wc.heap.size 9 i0 _ 1 Try.underlying23 HI.out HZ0.out HZ1.out _ _ _ _ n1 rfl rfl rfl rfl hby (by unfold maxLen; omega) (Nat.le_refl _) ?_; intro w1 hown1 hgrow1; obtain ⟨cur, hcl, hcr⟩ := made_row hown1; obtain ⟨w2, hrun, hS2, hB2⟩ := copy_run (c := c2) HV5.out ((Below.refl wc.heap.size wc).grown hgrow1 (Nat.le_refl _) (fun j hj => by cases hj)) hcr hcl (Nat.le_refl _); have HS2 := hid hS2; have HB2 := hid hB2; clear hown1 hgrow1 hcl hcr hS2 hB2)
        go_meet
        case rel => exact ⟨_, _, rfl, HS4.out.below (Nat.le_refl _) HB2.out, HS2, HB4.out.trans (HB2.out.mono hwc)⟩
    case rest =>
      obtain ⟨a5, c5, rfl, HS, HV2, HB⟩ := hcut
      clear HV5 hwc HS4 HB4
      clear hby HI HZ0 HZ1
      have q28 := fun (w : World) (r : Option Nat) => run_eql_map_nil (P := Try.prog) w 28 9 9 r Try.underlying28
      go_wp2_with fail
      cases br
      · refine (make_bare s a l _ _ _).mono ?_
        rintro e w1 ⟨rfl, hw1⟩
        have HSA : Hid (SampleAt w1 wc.heap.size s a l (.slice none 0 0)) := by rw [hw1]; exact SampleAt.made wc s a l _
        have HB1 : Hid (Below w.heap.size w w1) := by rw [hw1]; exact HB.out.alloc HB.out.size _
        clear hw1
        go_wp2_with fail
        refine (series_bare _ s a l _ HSA.out).mono ?_
        rintro e w2 ⟨rfl, hb2⟩
        have HSA2 : Hid (SampleAt (w2.alloc (.cells #[.string s, .map none, .float .f64 a, .int .i64 l] 30)) wc.heap.size s a l (.slice none 0 0)) := (HSA.out.below hb2 HSA.out.lt).alloc _
        have HB2 : Hid (Below w.heap.size w w2) := HB1.out.trans (hb2.mono HB1.out.size)
        have HE2 : Hid (SeriesAt (w2.alloc (.cells #[.string s, .map none, .float .f64 a, .int .i64 l] 30)) w2.heap.size s (.map none) a l) := heap_alloc_new w2 _
        clear hb2
        go_wp2_with fail
        refine (series_bare _ s a l _ HSA2.out).mono ?_
        rintro e w3 ⟨rfl, hb3⟩
        have HB3 : Hid (Below w.heap.size w w3) := (HB2.out.alloc HB2.out.size _).trans (hb3.mono (HB2.out.alloc HB2.out.size _).size)
        have HE3 := hid (HE2.out.below hb3 HE2.out.lt)
        have hx0 := fun o => (HE3.out.alloc o).cell0
        have hx1 := fun o => (HE3.out.alloc o).cell1
        clear hb3
        go_wp2_with fail
        go_ret
        exact ⟨rfl, HB3.out.alloc HB3.out.size _⟩
      · refine (make_any s a l a4 n1 c4 N a5 c5 V _ hn1 HS.out HV2.out).mono ?_
        rintro e w1 ⟨g, cap, rfl, hSA, hO, hb1⟩
        have HSA := hid hSA
        have HO := hid hO
        have HS1 := hid (HS.out.below (Nat.le_refl _) hb1)
        have HV1 := hid (HV2.out.below (Nat.le_refl _) hb1)
        have HBW : Hid (Below w.heap.size w w1) := HB.out.trans (hb1.mono HB.out.size)
        obtain ⟨SB, hSB⟩ : ∃ SB, SB = wc.heap.size := ⟨_, rfl⟩
        rw [← hSB] at HSA
        rw [← hSB]
        clear hSA hO hb1 HS HV2 HB hSB
        go_wp2_with fail
        refine (series_any _ s a l n1 g cap _ N V _ hn1 HSA.out HO.out HN.out HV.out).mono ?_
        rintro e w2 ⟨he, hM, hb2⟩
        obtain ⟨M, hMe⟩ : ∃ M, M = w1.heap.size + 2 := ⟨_, rfl⟩
        rw [← hMe] at he hM
        subst he
        have HE0 : Hid (SeriesAt (w2.alloc (.cells #[.string s, .map (some M), .float .f64 a, .int .i64 l] 30)) w2.heap.size s (.map (some M)) a l) := heap_alloc_new w2 _
        have HM0 := hid (hM.alloc (.cells #[.string s, .map (some M), .float .f64 a, .int .i64 l] 30))
        have HB0 : Hid (Below w1.heap.size w1 (w2.alloc (.cells #[.string s, .map (some M), .float .f64 a, .int .i64 l] 30))) := hb2.alloc hb2.size _
        have hMlt : w1.heap.size < M := by omega
        have hMA : M < w2.heap.size := hM.lt
        have hlen := HM0.out.len Try.underlying28 3
        obtain ⟨sz, hsz⟩ : ∃ sz, sz = Maps.size (fill N V n1) := ⟨_, rfl⟩
        rw [← hsz] at hlen
        have HSZ2 := hid hsz
        clear hM hb2 hMe hsz
        go_wp2_with fail
        clear hlen
        go_loopw [19] (fun i wr => ∃ k : Nat, k ≤ n1 ∧ i = .int .i64 k ∧ Hid (SeriesAt wr w2.heap.size s (.map (some M)) a l) ∧ Hid (wr.ownsMap Try.prog 9 (plainElem Try.prog 9) M n1 (dels (fill N V n1) N k)) ∧ Hid (Below w1.heap.size w1 wr)) (fun i _ => n1 - (intOf i).toNat)
        case atStart => exact ⟨0, Nat.zero_le _, rfl, HE0, HM0, HB0⟩
        case round =>
          obtain ⟨k, hk, rfl, HE, HM, HBk⟩ := hrel
          clear HE0 HM0 HB0
          by_cases hlt : k < n1
          · obtain ⟨b4, o4, ha4, _⟩ := HS1.out.2 (by omega)
            subst ha4
            have hck := (HS1.out.below (Nat.le_refl _) HBk.out).at hlt
            have he1 := HE.out.cell1
            obtain ⟨xk, hxk⟩ : ∃ x, x = nm N k := ⟨_, rfl⟩
            rw [← hxk] at hck
            have hkey := WideMaps.keyOf_string_mk Try.underlying9 (show xk.size ≤ maxLen by rw [hxk]; exact HN.out k)
            obtain ⟨w5, hrun, hown5, hturn5⟩ := (HM.out.drew).drop law Try.underlying28 hkey 0
            have HO5 := hid hown5
            have HT5 := hid hturn5
            have HXK := hid hxk
            clear hown5 hturn5 hkey hxk
            have hk0 : (0 : Int) ≤ (k : Int) := Int.natCast_nonneg _
            have hk1 : (k : Int) < (n1 : Int) := by omega
            go_wp2_with fail
            go_region
            have R := hid (del_next HE.out hMA HBk.out hMlt HO5.out HT5.out HXK.out)
            go_wp2
            go_roundw
            case rel => exact ⟨k + 1, by omega, by go_num, R.out.1, R.out.2.1, R.out.2.2⟩
            case measure => simp [intOf]; omega
          · have HME : Hid (wr.ownsMap Try.prog 9 (plainElem Try.prog 9) M n1 (.map [] : DataW Unit)) := by
              have h := HM.out
              have hl := HS1.out.1
              rw [show k = n1 by omega, ← hl, dels_empty] at h
              rw [← hl]
              exact h
            have he1 := HE.out.cell1
            have HKEY := hid (WideMaps.keyOf_string_mk Try.underlying9 HSZ.out)
            have HVAL := hid (plainElem_string (H := Unit) Try.underlying9 (s := zz) (by decide))
            go_wp2_with (at_mapUpdate; refine wpList_mapUpdate_own _ rfl _ _ _ 28 rfl 9 9 law Try.underlying28 _ M n1 _ rfl HME.out (by unfold maxLen; omega) _ _ _ rfl rfl HKEY.out _ [] HVAL.out ?_; intro w5 hown5 hgrow5; have HO5 := hid hown5; have HG5 := hid hgrow5; clear hown5 hgrow5)
            have HE5 := hid (HE.out.grown HG5.out (by simp; omega))
            have HB5 := hid (HBk.out.grown HG5.out HBk.out.size (fun j hj => by cases hj; omega))
            clear HE HM HBk HME HKEY HVAL HG5 he1
            refine (series_any _ s a l n1 g cap _ N V _ hn1 (HSA.out.below HB5.out HSA.out.lt) (ownsRow_below HO.out HB5.out) HN.out HV.out).mono ?_
            rintro e w6 ⟨he, hM2, hb6⟩
            obtain ⟨M2, hM2e⟩ : ∃ M2, M2 = w5.heap.size + 2 := ⟨_, rfl⟩
            rw [← hM2e] at he hM2
            subst he
            have HL := hid (late_start HE5.out HO5.out HB5.out HS1.out HV1.out HBW.out hM2 hb6)
            have hlen2 := HL.out.2.2.2.2.2.1.len Try.underlying28 3
            rw [← HSZ2.out] at hlen2
            clear hM2e hM2 hb6 HE5 HB5 HO5 HSA HO
            go_wp2_with fail
            clear hlen2
            go_loopw [21] (fun i wr => ∃ k : Nat, k ≤ n1 ∧ i = .int .i64 k ∧ Hid (Late w wr w2.heap.size M w6.heap.size M2 s a l n1 N V a4 a5)) (fun i _ => n1 - (intOf i).toNat)
            case atStart => exact ⟨0, Nat.zero_le _, rfl, HL⟩
            case round =>
              obtain ⟨k2, hk2, rfl, HLk⟩ := hrel
              clear HL
              by_cases hlt2 : k2 < n1
              · obtain ⟨b4, o4, ha4, _⟩ := HS1.out.2 (by omega)
                subst ha4
                have hck := HLk.out.2.2.2.1.at hlt2
                have he1 := HLk.out.2.2.1.cell1
                obtain ⟨xk, hxk⟩ : ∃ x, x = nm N k2 := ⟨_, rfl⟩
                rw [← hxk] at hck
                obtain ⟨vk, hlk⟩ := look_has HLk.out.2.2.2.2.2.1 (x := xk) (by rw [hxk]; exact HN.out k2) ((fill_has N V _ n1).2 ⟨k2, hlt2, hxk.symm⟩)
                clear hxk
                have hk0 : (0 : Int) ≤ (k2 : Int) := Int.natCast_nonneg _
                have hk1 : (k2 : Int) < (n1 : Int) := by omega
                go_wp2_with fail
                go_quiet (fail)
                go_wp2_with fail
                go_roundw
                case rel => exact ⟨k2 + 1, by omega, by go_num, HLk.out.drewN _⟩
                case measure => simp [intOf]; omega
              · have ha0 := HLk.out.1.cell1
                have hb0 := HLk.out.2.2.1.cell0
                have hb1 := HLk.out.2.2.1.cell1
                have hb2 := HLk.out.2.2.1.cell2
                have hb3 := HLk.out.2.2.1.cell3
                have hlenA := HLk.out.2.1.len Try.underlying28 3
                have hlookA := look_plain HLk.out.2.1 HSZ.out (one_at s)
                have hlenQ := fun q => (HLk.out.drewN q).2.1.len Try.underlying28 3
                have hlookQ := fun q => look_plain (HLk.out.drewN q).2.1 HSZ.out (one_at s)
                rw [one_size] at hlenA
                simp only [one_size] at hlenQ
                unfold zz at hlookA hlookQ
                by_cases hn0 : 0 < n1
                · obtain ⟨b4, o4, ha4, _⟩ := HS1.out.2 (by omega)
                  obtain ⟨b5, o5, ha5, _⟩ := HV1.out.2 (by omega)
                  subst ha4 ha5
                  obtain ⟨m, hm⟩ : ∃ m, m = n1 - 1 := ⟨_, rfl⟩
                  have hmn : m < n1 := by omega
                  have hsub : (n1 : Int) - 1 = (m : Int) := by omega
                  have hck := HLk.out.2.2.2.1.at hmn
                  have hcv := HLk.out.2.2.2.2.1.at hmn
                  have hlk := fun q => (HLk.out.drewN q).2.2.2.look HN.out hmn (fun j h1 h2 => absurd h2 (by omega))
                  obtain ⟨xm, hxm⟩ : ∃ x, x = nm N m := ⟨_, rfl⟩
                  obtain ⟨vm, hvm⟩ : ∃ x, x = nm V m := ⟨_, rfl⟩
                  rw [← hxm] at hck
                  rw [← hvm] at hcv
                  simp only [← hxm, ← hvm] at hlk
                  clear hm hxm hvm
                  have hk0 : (0 : Int) ≤ (m : Int) := Int.natCast_nonneg _
                  have hk1 : (m : Int) < (n1 : Int) := by omega
                  go_wp2_with fail
                  go_quiet (fail)
                  go_wp2_with (go_at_call 9; refine (same_any a _).mono ?_; rintro e w' ⟨rfl, rfl⟩)
                  go_ret
                  exact ⟨rfl, (HLk.out.drewN _).2.2.2.2.2.2⟩
                · go_wp2_with (go_at_call 9; refine (same_any a _).mono ?_; rintro e w' ⟨rfl, rfl⟩)
                  go_ret
                  exact ⟨rfl, HLk.out.2.2.2.2.2.2⟩

end Go.Proofs.Qxb6630595a
