/-
  THE WALKS of seat b6630640a, first text: the guards, the list of patterns.
-/
import Derived.Test.Qxb6630640aRows
import Derived.Test.Qxb6630640aPlain
import Derived.WalkKit
import Derived.WalkSpells
import Derived.WalkLawsBesides
import Derived.Deep.AppendLies
namespace Go.Proofs.Qxb6630640a
open Go.RowKit

theorem hid {p : Prop} (h : p) : Hid p := h

/-- The guard that the statement's program lays: it answers some bool. -/
def Some1 (w : World) (e : Ending) (w' : World) : Prop := ∃ b : Bool, e = .returned (.bool b) ∧ w = w'

set_option maxHeartbeats 400000 in
theorem bytes5_any (s t : ByteArray) (hs : s.size ≤ maxLen) (ht : t.size ≤ maxLen) (w : World) :
    Calls Try.prog 5 #[.string s, .string t] w (Some1 w) := by
  unfold maxLen at hs ht
  by_cases h1 : 1048576 < s.size
  · go_enter Try.func5, Try.ntmps5
    go_wp2
    go_ret
    exact ⟨false, rfl, rfl⟩
  by_cases h2 : 1048576 < t.size
  · go_enter Try.func5, Try.ntmps5
    go_wp2
    go_ret
    exact ⟨false, rfl, rfl⟩
  go_enter Try.func5, Try.ntmps5
  go_wp2
  · go_ret
    exact ⟨false, rfl, rfl⟩
  · go_ret
    exact ⟨true, rfl, rfl⟩

set_option maxHeartbeats 400000 in
theorem bytes7_any (s t : ByteArray) (hs : s.size ≤ maxLen) (ht : t.size ≤ maxLen) (w : World) :
    Calls Try.prog 7 #[.string s, .string t] w (Some1 w) := by
  unfold maxLen at hs ht
  by_cases h1 : 1048576 < s.size
  · go_enter Try.func7, Try.ntmps7
    go_wp2
    go_ret
    exact ⟨false, rfl, rfl⟩
  by_cases h2 : 1048576 < t.size
  · go_enter Try.func7, Try.ntmps7
    go_wp2
    go_ret
    exact ⟨false, rfl, rfl⟩
  go_enter Try.func7, Try.ntmps7
  go_wp2
  · go_ret
    exact ⟨false, rfl, rfl⟩
  · go_ret
    exact ⟨true, rfl, rfl⟩

theorem info9 : (Try.prog.info? 9).map (fun i => (i.zero, i.size, i.bytes)) = some (some (.string ByteArray.empty), 1, 16) := by kernel_rfl

/-- The slice at block g holds the texts L. -/
def Strs (w : World) (g : Nat) (L : List ByteArray) : Prop := g < w.heap.size ∧ ∀ i, i < L.length → w.cell? ⟨g, i, none⟩ = some (.string (nm L i))

theorem Strs.below {w w' : World} {g : Nat} {L : List ByteArray} (h : Strs w g L) (hb : Below w.heap.size w w') : Strs w' g L :=
  ⟨Nat.lt_of_lt_of_le h.1 hb.size, fun i hi => (hb.cell (p := ⟨g, i, none⟩) h.1).trans (h.2 i hi)⟩

theorem strs_of_row {w : World} {base g n cap : Nat} {L : List ByteArray} (h : w.ownsRow base 9 1 (.slice (some ⟨g, 0, none⟩) n cap) n (L.map Value.string)) (hn : L.length = n) : Strs w g L := by
  refine ⟨?_, fun i hi => ?_⟩
  · rcases h.2 with ⟨e, _⟩ | ⟨g', cap', cur, hv, _, hg, _⟩
    · cases e
    · cases hv; exact lt_of_block hg
  · rw [h.cellAt i (by omega), nm_lt hi]
    simp [hi]

/-- What MatchingPatterns leaves: a new slice of the patterns. -/
def Listed (w : World) (t : ByteArray) (e : Ending) (w' : World) : Prop :=
  ∃ g cap, e = .returned (.slice (some ⟨g, 0, none⟩) (pats t).length cap) ∧ Strs w' g (pats t) ∧ Below w.heap.size w w'

def row (t : ByteArray) (k : Nat) : List ByteArray := star :: t :: pre t k
theorem row_len (t : ByteArray) (k : Nat) : (row t k).length = (pre t k).length + 2 := rfl

theorem row_start (w : World) (t : ByteArray) : (w.alloc (.cells #[.string star, .string t] 9)).ownsRow w.heap.size 9 1 (.slice (some ⟨w.heap.size, 0, none⟩) 2 2) 2 ((row t 1).map Value.string) := by
  refine ⟨by rw [row, pre_one]; rfl, .inr ⟨w.heap.size, 2, #[.string star, .string t], rfl, Nat.le_refl _, heap_alloc_new w _, Nat.le_refl _, by decide, rfl, ?_⟩⟩
  rw [row, pre_one]; rfl

theorem row_hit {t : ByteArray} {k : Nat} (h1 : 1 ≤ k) (h : at_ t k = 46) : row t (k + 1) = row t k ++ [pat t k] := by
  unfold row
  rw [pre_hit (by omega) h]; rfl
theorem row_miss {t : ByteArray} {k : Nat} (h : ¬ at_ t k = 46) : row t (k + 1) = row t k := by
  unfold row
  rw [pre_miss h]
theorem row_end {t : ByteArray} {k : Nat} (h : k ≤ t.size ∨ k = 1) (h1 : 1 ≤ k) (hge : ¬ k < t.size) : row t k = pats t := by
  have : pre t k = pre t t.size := by
    rcases h with h | h
    · rw [show k = t.size by omega]
    · subst h
      by_cases e : t.size = 1
      · rw [e]
      · rw [show t.size = 0 by omega, pre_one]; rfl
  unfold row pats
  rw [this]

theorem ret_len {a : Option Addr} {n m c : Nat} (h : n = m) : Ending.returned (.slice a n c) = .returned (.slice a m c) := by rw [h]

theorem list_next {w wr w1 : World} {t : ByteArray} {k g gg cap cap2 n : Nat} {o : Obj} (HN : n = (row t k).length) (HB : Below w.heap.size w wr)
    (HO : w1.ownsRow w.heap.size 9 1 (.slice (some ⟨gg, 0, none⟩) (n + 1) cap2) (n + 1) ((row t k).map Value.string ++ [.string (pat t k)]))
    (HR : wr.ownsRow w.heap.size 9 1 (.slice (some ⟨g, 0, none⟩) n cap) n ((row t k).map Value.string))
    (HG : (wr.alloc o).grownBy w1 (some g)) (h1 : 1 ≤ k) (h : at_ t k = 46) :
    n + 1 = (row t (k + 1)).length ∧ w1.ownsRow w.heap.size 9 1 (.slice (some ⟨gg, 0, none⟩) (n + 1) cap2) (n + 1) ((row t (k + 1)).map Value.string) ∧ Below w.heap.size w w1 := by
  rw [row_hit h1 h]
  refine ⟨by rw [List.length_append, HN]; rfl, by rw [List.map_append]; exact HO, ?_⟩
  have hB : Below w.heap.size w (wr.alloc o) := HB.alloc HB.size o
  refine hB.grown HG hB.size (fun j hj => ?_)
  cases hj
  rcases HR.2 with ⟨e, _⟩ | ⟨g', cap', cur, hv, hb, _⟩
  · cases e
  · cases hv; exact hb

set_option maxHeartbeats 1000000 in
theorem list_any (t : ByteArray) (ht : t.size ≤ 5000) (w : World) : Calls Try.prog 6 #[.string t] w (Listed w t) := by
  obtain ⟨i0, hi, hz0, hz1, hz2⟩ := info_parts info9
  have HI := hid hi
  have HZ0 := hid hz0
  have HZ1 := hid hz1
  have HZ2 := hid hz2
  clear hi hz0 hz1 hz2
  have HR0 := hid (row_start w t)
  go_enter Try.func6, Try.ntmps6
  go_wp2
  go_loopw [3, 4] (fun v i wr => ∃ k g cap n : Nat, 1 ≤ k ∧ (k ≤ t.size ∨ k = 1) ∧ n ≤ k + 2 ∧ i = .int .i64 k ∧ v = .slice (some ⟨g, 0, none⟩) n cap ∧ Hid (n = (row t k).length) ∧
      Hid (wr.ownsRow w.heap.size 9 1 (.slice (some ⟨g, 0, none⟩) n cap) n ((row t k).map Value.string)) ∧ Hid (Below w.heap.size w wr)) (fun _ i _ => t.size - (intOf i).toNat)
  case atStart => exact ⟨1, w.heap.size, 2, 2, by omega, by omega, by omega, rfl, rfl, by show 2 = _; rw [row_len, pre_one]; rfl, HR0, (Below.refl _ _).alloc (Nat.le_refl _) _⟩
  case round =>
    obtain ⟨k, g, cap, n, hk1, hkt, hnk, rfl, rfl, HN, HO, HB⟩ := hrel
    clear HR0
    by_cases hlt : k < t.size
    · have hbd : Hid (((t[k]'hlt).toNat : Int) = (at_ t k : Int)) := by
        show _ = _
        rw [at_lt hlt]; rfl
      by_cases h46 : at_ t k = 46
      · have hb : (((t[k]'hlt).toNat : Int) == 46) = true := by rw [hbd.out, h46]; rfl
        have H46 := hid h46
        clear h46
        go_wp2_with (at_builtin; refine wpList_append_lies _ rfl _ _ 23 rfl w.heap.size 9 i0 _ 1 16 Try.underlying23 HI.out HZ0.out HZ1.out HZ2.out rfl (by omega) _ n ((row t k).map Value.string) rfl (HO.out.alloc _) ⟨wr.heap.size, 0, none⟩ 1 1 [.string (pat t k)] rfl rfl (World.news_of_block (cs := #[.string (pat t k)]) (t := 9) (fr := (0, 0)) (heap_alloc_new wr _)) (by simp [Value.oneCell']) (by omega) (by unfold maxLen; omega) (by omega) (by have := HB.out.size; simp; omega) _ rfl ?_; intro gg cap2 w1 hown1 hgrow hat hlt1; have HO1 := hid hown1; have HG1 := hid hgrow; clear hown1 hgrow hat hlt1)
        have R := hid (list_next HN.out HB.out HO1.out HO.out HG1.out hk1 H46.out)
        go_roundw
        case rel => exact ⟨k + 1, gg, cap2, n + 1, by omega, by omega, by omega, by go_num, rfl, R.out.1, R.out.2.1, R.out.2.2⟩
        case measure => simp [intOf]; omega
      · have hb : (((t[k]'hlt).toNat : Int) == 46) = false := by rw [hbd.out]; exact beq_eq_false_iff_ne.2 (by omega)
        have H46 := hid h46
        clear h46
        go_wp2
        go_roundw
        case rel => exact ⟨k + 1, g, cap, n, by omega, by omega, by omega, by go_num, rfl, by rw [row_miss H46.out]; exact HN.out, by rw [row_miss H46.out]; exact HO.out, HB⟩
        case measure => simp [intOf]; omega
    · have HE := hid (row_end hkt hk1 hlt)
      have HST := hid (strs_of_row HO.out HN.out.symm)
      go_wp2
      go_ret
      exact ⟨g, cap, ret_len (HN.out.trans (congrArg List.length HE.out)), by rw [← HE.out]; exact HST.out, HB.out⟩

end Go.Proofs.Qxb6630640a
