/-
  THE WALK of ZZnewSample.
-/
import Derived.Test.Qxb6630595aParts
import Derived.Deep.RegionLaw
import Derived.Deep.DrawnRows
namespace Go.Proofs.Qxb6630595a
open Go.RowKit

set_option maxHeartbeats 400000 in
theorem make_bare (s : ByteArray) (a : Nat) (l : Int) (x y : Value) (w : World) :
    Calls Try.prog 7 #[.string s, .float .f64 a, .int .i64 l, .bool false, x, y] w fun e w' => e = .returned (.pointer (some ⟨w.heap.size, 0, none⟩)) ∧ w' = w.alloc (.cells #[.string s, .float .f64 a, .int .i64 l, .slice none 0 0] 36) := by
  go_enter Try.func7, Try.ntmps7
  go_wp2
  go_ret
  exact ⟨rfl, rfl⟩

attribute [local go_sem ↓] Go.wp_at_zero Go.wp_at_succ
set_option maxHeartbeats 2000000 in
theorem make_any (s : ByteArray) (a : Nat) (l : Int) (a1 : Option Addr) (n c1 : Nat) (N : List ByteArray) (a2 : Option Addr) (c2 : Nat) (V : List ByteArray) (w : World)
    (hn : n ≤ 4096) (h1 : Strs w a1 n N) (h2 : Strs w a2 n V) :
    Calls Try.prog 7 #[.string s, .float .f64 a, .int .i64 l, .bool true, .slice a1 n c1, .slice a2 n c2] w (Made w s a l n N V) := by
  have H1 : Hid (Strs w a1 n N) := h1
  have H2 : Hid (Strs w a2 n V) := h2
  clear h1 h2
  obtain ⟨i0, hi, hz0, hz1, hz2⟩ := info_parts info38
  have hby : i0.bytes * n ≤ 281474976710656 := by rw [hz2]; omega
  have HI : Hid (Try.prog.info? 38 = some i0) := hi
  have HZ0 : Hid (i0.zero = some (.agg #[.string ByteArray.empty, .string ByteArray.empty])) := hz0
  have HZ1 : Hid (i0.size = 2) := hz1
  have HZ2 : Hid (i0.bytes = 32) := hz2
  clear hi hz0 hz1 hz2
  go_enter Try.func7, Try.ntmps7
  go_wp2_with (at_make; refine wpList_make_own _ rfl _ _ 34 rfl (w.heap.size + 1) 38 i0 _ 2 Try.underlying34 HI.out HZ0.out HZ1.out _ _ _ n rfl rfl rfl hby (by unfold maxLen; omega) (by simp) ?_; intro w1 hown1 hgrow1; have HS1 : Hid (SampleAt w1 w.heap.size s a l (.slice none 0 0)) := (SampleAt.made w s a l _).grown hgrow1 (by simp); have hc3 := HS1.out.cell3; have hf3 := HS1.out.free 3; have HO1 := hid hown1; have HG1 := hid hgrow1; clear hown1 hgrow1)
  go_loopw [14] (fun i wr => ∃ (k g cap : Nat), k ≤ n ∧ i = .int .i64 k ∧ Hid (SampleAt wr w.heap.size s a l (.slice (some ⟨g, 0, none⟩) k cap)) ∧
      Hid (wr.ownsRow (w.heap.size + 1) 38 2 (.slice (some ⟨g, 0, none⟩) k cap) k (lab N V k)) ∧ Hid (Below w.heap.size w wr)) (fun i _ => n - (intOf i).toNat)
  case atStart =>
    have HO2 : Hid (w1.ownsRow (w.heap.size + 1) 38 2 (.slice (some ⟨w.heap.size + 1, 0, none⟩) 0 n) 0 []) := by have := HO1.out; rw [World.size_alloc] at this; exact this
    have R := make_start HO2.out HG1.out N V
    exact ⟨0, w.heap.size + 1, n, Nat.zero_le _, rfl, HS1.out.set _, R.1, R.2⟩
  case round =>
    obtain ⟨k, g, cap, hk, rfl, HS, HO, HB⟩ := hrel
    by_cases hlt : k < n
    · obtain ⟨b1, o1, ha1, hcs1⟩ := H1.out.2 (by omega)
      obtain ⟨b2, o2, ha2, hcs2⟩ := H2.out.2 (by omega)
      have hx1 := hcs1 k hlt
      have hx2 := hcs2 k hlt
      have hb1 : b1 < w.heap.size := World.block_lt_of_cell? w _ hx1
      have hb2 : b2 < w.heap.size := World.block_lt_of_cell? w _ hx2
      have hy1 : wr.cell? ⟨b1, o1 + k, none⟩ = some (.string (N.getD k ByteArray.empty)) := (HB.out.cell (p := ⟨b1, o1 + k, none⟩) hb1).trans hx1
      have hy2 : wr.cell? ⟨b2, o2 + k, none⟩ = some (.string (V.getD k ByteArray.empty)) := (HB.out.cell (p := ⟨b2, o2 + k, none⟩) hb2).trans hx2
      obtain ⟨nk, hnk⟩ : ∃ nk, nk = N.getD k ByteArray.empty := ⟨_, rfl⟩
      obtain ⟨vk, hvk⟩ : ∃ vk, vk = V.getD k ByteArray.empty := ⟨_, rfl⟩
      rw [← hnk] at hy1
      rw [← hvk] at hy2
      have HNK : Hid (nk = N.getD k ByteArray.empty) := hnk
      have HVK : Hid (vk = V.getD k ByteArray.empty) := hvk
      have hc3 := HS.out.cell3
      have hf3 := HS.out.free 3
      have hBw := HS.out.lt
      have hfa : ∀ o, (wr.alloc o).frozen? ⟨w.heap.size, 3, none⟩ = false := fun o => (World.frozen?_alloc_old _ _ _ (by simp; omega)).trans hf3
      have hb1' : b1 < wr.heap.size := by have := HB.out.size; omega
      have hb2' : b2 < wr.heap.size := by have := HB.out.size; omega
      have hgB : w.heap.size + 1 ≤ g := by
        rcases HO.out.2 with ⟨h, _⟩ | ⟨g', c', cur, hv, hb, _⟩
        · cases h
        · cases hv; exact hb
      clear hcs1 hcs2 hx1 hx2 hnk hvk
      subst ha1 ha2
      have hk0 : (0 : Int) ≤ (k : Int) := Int.natCast_nonneg _
      have hk1 : (k : Int) < (n : Int) := by omega
      go_wp2_with fail
      go_region_law ((refine step_append_lies _ (by rfl) _ _ _ (by rfl) (w.heap.size + 1) 38 i0 _ 2 32 Try.underlying34 HI.out HZ0.out HZ1.out HZ2.out rfl (by omega) (.slice (some ⟨g, 0, none⟩) k cap) k (lab N V k) (by simp [Act.eval]) ((HO.out.alloc _).drew) ⟨wr.heap.size, 0, none⟩ 1 1 [.string nk, .string vk] (by simp [Act.eval]) (by rfl) (World.news_of_block (cs := #[.string nk, .string vk]) (t := 38) (fr := (0, 0)) (heap_alloc_new wr _)) (by simp [Value.oneCell']) (by omega) (by unfold maxLen; omega) (by omega) (by simp; omega) (wr.heap.size + 1) (by simp) ?_; intro gg cap2 w1 hown1 hgrow hat hlt; have HS1 : Hid (SampleAt w1 w.heap.size s a l (.slice (some ⟨g, 0, none⟩) k cap)) := ((HS.out.alloc _).drew).grown hgrow (by simp [Value.ownBlock]; omega); have hc31 := HS1.out.cell3; have hf31 := HS1.out.free 3; have HO1 := hid hown1; have HG1 := hid hgrow; clear hown1 hgrow hat hlt))
      all_goals
        have R := make_next HS1.out HO1.out HG1.out hgB HB.out HNK.out HVK.out
        have HR := hid R
        clear R
        go_wp2
        go_roundw
        case rel => exact ⟨k + 1, gg, cap2, by omega, by go_num, HR.out.1, HR.out.2.1, HR.out.2.2⟩
        case measure => simp [intOf]; omega
    · have hkn : k = n := by omega
      have HKN : Hid (k = n) := hkn
      clear hkn
      go_wp2
      go_ret
      exact ⟨g, cap, rfl, HKN.out ▸ HS.out, HKN.out ▸ HO.out, HB.out⟩

end Go.Proofs.Qxb6630595a
