/-
  THE WALK of (*Sample).Series.
-/
import Derived.Test.Qxb6630595aParts2
import Derived.Deep.RegionHeld3
import Derived.Deep.DrawnRows
namespace Go.Proofs.Qxb6630595a
open Go.RowKit Go.Maps

attribute [local go_sem ↓] Go.wp_at_zero Go.wp_at_succ
attribute [local go_sem] run_store_float
set_option maxHeartbeats 1000000 in
theorem series_bare (B : Nat) (s : ByteArray) (a : Nat) (l : Int) (w : World) (hS : SampleAt w B s a l (.slice none 0 0)) :
    Calls Try.prog 8 #[.pointer (some ⟨B, 0, none⟩)] w fun e w' => e = .returned (.agg #[.string s, .map none, .float .f64 a, .int .i64 l]) ∧ Below w.heap.size w w' := by
  have HS := hid hS
  have hB := hS.lt
  clear hS
  have hc0 := fun o => (HS.out.alloc o).cell0
  have hc1 := fun o => (HS.out.alloc o).cell1
  have hc2 := fun o => (HS.out.alloc o).cell2
  have hc3 := fun o o' => ((HS.out.alloc o).alloc o').cell3
  go_enter Try.func8, Try.ntmps8
  go_wp2_with fail
  go_region_held3 (fun w' => w'.cell? ⟨B, 0, none⟩ = some (.string s) ∧ w'.cell? ⟨B, 1, none⟩ = some (.float .f64 a) ∧ w'.cell? ⟨B, 2, none⟩ = some (.int .i64 l)) (go_keep) (fail)
  go_wp2
  refine bodyPost_ret (v := .agg #[.string s, .map none, .float .f64 a, .int .i64 l]) (by simp [results, Try.results8, go_sem]) rfl ⟨rfl, ?_⟩
  exact (((Below.refl _ _).alloc (Nat.le_refl _) _).alloc (by simp) _).drew

/-- What Series leaves where the sample has braces: a Series whose labels lie in a map of its own, in a new block. -/
def Served (w : World) (s : ByteArray) (a : Nat) (l : Int) (n : Nat) (N V : List ByteArray) (e : Ending) (w' : World) : Prop :=
  e = .returned (.agg #[.string s, .map (some (w.heap.size + 2)), .float .f64 a, .int .i64 l]) ∧ w'.ownsMap Try.prog 9 (plainElem Try.prog 9) (w.heap.size + 2) n (fill N V n) ∧ Below w.heap.size w w'

set_option maxHeartbeats 1000000 in
theorem series_any (B : Nat) (s : ByteArray) (a : Nat) (l : Int) (n g cap base : Nat) (N V : List ByteArray) (w : World) (hn : n ≤ 4096)
    (hS : SampleAt w B s a l (.slice (some ⟨g, 0, none⟩) n cap)) (hO : w.ownsRow base 38 2 (.slice (some ⟨g, 0, none⟩) n cap) n (lab N V n))
    (hN : ∀ i, (N.getD i ByteArray.empty).size ≤ maxLen) (hV : ∀ i, (V.getD i ByteArray.empty).size ≤ maxLen) :
    Calls Try.prog 8 #[.pointer (some ⟨B, 0, none⟩)] w (Served w s a l n N V) := by
  have HS := hid hS
  have HO := hid hO
  have HN := hid hN
  have HV := hid hV
  have hB := hS.lt
  clear hS hO hN hV
  have hc0 := fun o => (HS.out.alloc o).cell0
  have hc1 := fun o => (HS.out.alloc o).cell1
  have hc2 := fun o => (HS.out.alloc o).cell2
  have hc3 := fun o o' => ((HS.out.alloc o).alloc o').cell3
  have hc4 := fun o o' o'' => (((HS.out.alloc o).alloc o').alloc o'').cell3
  have hmm := make_map
  go_enter Try.func8, Try.ntmps8
  go_wp2_with fail
  go_region_held3 (fun w' => w'.cell? ⟨B, 0, none⟩ = some (.string s) ∧ w'.cell? ⟨B, 1, none⟩ = some (.float .f64 a) ∧ w'.cell? ⟨B, 2, none⟩ = some (.int .i64 l)) (go_keep) (fail)
  go_wp2
  have R := series_start w _ _ N V (s1 := ⟨#[]⟩) (m1 := .map none) (a1 := 0) (l1 := 0) (s2 := s) (m2 := .map (some (w.heap.size + 2))) (a2 := a) (l2 := l) rfl rfl
  have HR := hid R
  clear R
  go_loopw [36] (fun i wr => ∃ k : Nat, k ≤ n ∧ i = .int .i64 k ∧ Hid (SeriesAt wr w.heap.size ⟨#[]⟩ (.map none) 0 0) ∧ Hid (SeriesAt wr (w.heap.size + 1) s (.map (some (w.heap.size + 2))) a l) ∧
      Hid (wr.ownsMap Try.prog 9 (plainElem Try.prog 9) (w.heap.size + 2) k (fill N V k)) ∧ Hid (Below w.heap.size w wr)) (fun i _ => n - (intOf i).toNat)
  case atStart => exact ⟨0, Nat.zero_le _, rfl, HR.out.1, HR.out.2.1, HR.out.2.2.1, HR.out.2.2.2⟩
  case round =>
    obtain ⟨k, hk, rfl, HZ, HE, HM, HB⟩ := hrel
    clear HR hc0 hc1 hc2 hc3 hc4 hmm
    have he1 := HE.out.cell1
    have hez := HE.out.lt
    by_cases hlt : k < n
    · have hl := lab_cell HO.out hlt
      have hgw : g < w.heap.size := World.block_lt_of_cell? w _ hl.1
      have hx1 : wr.cell? ⟨g, k * 2, none⟩ = some (.string (N.getD k ByteArray.empty)) := (HB.out.cell (p := ⟨g, k * 2, none⟩) hgw).trans hl.1
      have hx2 : wr.cell? ⟨g, k * 2 + 1, none⟩ = some (.string (V.getD k ByteArray.empty)) := (HB.out.cell (p := ⟨g, k * 2 + 1, none⟩) hgw).trans hl.2
      obtain ⟨nk, hnk⟩ : ∃ nk, nk = N.getD k ByteArray.empty := ⟨_, rfl⟩
      obtain ⟨vk, hvk⟩ : ∃ vk, vk = V.getD k ByteArray.empty := ⟨_, rfl⟩
      rw [← hnk] at hx1
      rw [← hvk] at hx2
      have HNK := hid hnk
      have HVK := hid hvk
      have HKEY := hid (WideMaps.keyOf_string_mk Try.underlying9 (show nk.size ≤ maxLen by rw [hnk]; exact HN.out k))
      have HVAL := hid (plainElem_string (H := Unit) Try.underlying9 (show vk.size ≤ maxLen by rw [hvk]; exact HV.out k))
      clear hl hnk hvk
      go_wp2_with (at_mapUpdate; refine wpList_mapUpdate_own _ rfl _ _ _ 28 rfl 9 9 law Try.underlying28 _ (w.heap.size + 2) k _ rfl (HM.out.alloc _) (by unfold maxLen; omega) _ _ _ rfl rfl HKEY.out _ [] HVAL.out ?_; intro w1 hown1 hgrow1; have HO1 := hid hown1; have HG1 := hid hgrow1; clear hown1 hgrow1)
      have R := series_next HZ.out HE.out HB.out HO1.out HG1.out HNK.out HVK.out
      have HR := hid R
      clear R
      go_roundw
      case rel => exact ⟨k + 1, by omega, by go_num, HR.out.1, HR.out.2.1, HR.out.2.2.1, HR.out.2.2.2⟩
      case measure => simp [intOf]; omega
    · have he0 := HE.out.cell0
      have he2 := HE.out.cell2
      have he3 := HE.out.cell3
      have hz0 := HZ.out.cell0
      have hz1 := HZ.out.cell1
      have hz2 := HZ.out.cell2
      have hz3 := HZ.out.cell3
      have hf0 := HZ.out.free 0
      have hf1 := HZ.out.free 1
      have hf2 := HZ.out.free 2
      have hf3 := HZ.out.free 3
      have HKN := hid (show k = n by omega)
      go_wp2
      refine bodyPost_ret (v := .agg #[.string s, .map (some (w.heap.size + 2)), .float .f64 a, .int .i64 l]) (by simp [results, Try.results8, go_sem, hz0, hz1, hz2, hz3]) rfl ?_
      have R := series_end HM.out HB.out HKN.out (.string s) (.map (some (w.heap.size + 2))) (.float .f64 a) (.int .i64 l)
      exact ⟨rfl, R.1, R.2⟩

end Go.Proofs.Qxb6630595a
