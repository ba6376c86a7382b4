/-
  PARTS for the walks of seat b6630595a: small facts on worlds and rows; no walk here.
-/
import Derived.Test.Qxb6630595aWalks
import Derived.Deep.AppendLies
namespace Go.Proofs.Qxb6630595a
open Go.RowKit

theorem hid {p : Prop} (h : p) : Hid p := h

theorem info38 : (Try.prog.info? 38).map (fun i => (i.zero, i.size, i.bytes)) = some (some (.agg #[.string ByteArray.empty, .string ByteArray.empty]), 2, 32) := by kernel_rfl
theorem info9 : (Try.prog.info? 9).map (fun i => (i.zero, i.size, i.bytes)) = some (some (.string ByteArray.empty), 1, 16) := by kernel_rfl

/-- Block B is a Sample: its name, value, line and labels. -/
def SampleAt (w : World) (B : Nat) (s : ByteArray) (a : Nat) (l : Int) (v : Value) : Prop :=
  w.heap[B]? = some (.cells #[.string s, .float .f64 a, .int .i64 l, v] 36 (0, 0))

section
variable {w w' : World} {B : Nat} {s : ByteArray} {a : Nat} {l : Int} {v u : Value}

theorem SampleAt.cell0 (h : SampleAt w B s a l v) : w.cell? ⟨B, 0, none⟩ = some (.string s) := by unfold SampleAt at h; simp [World.cell?, h]
theorem SampleAt.cell1 (h : SampleAt w B s a l v) : w.cell? ⟨B, 1, none⟩ = some (.float .f64 a) := by unfold SampleAt at h; simp [World.cell?, h]
theorem SampleAt.cell2 (h : SampleAt w B s a l v) : w.cell? ⟨B, 2, none⟩ = some (.int .i64 l) := by unfold SampleAt at h; simp [World.cell?, h]
theorem SampleAt.cell3 (h : SampleAt w B s a l v) : w.cell? ⟨B, 3, none⟩ = some v := by unfold SampleAt at h; simp [World.cell?, h]
theorem SampleAt.free (h : SampleAt w B s a l v) (i : Nat) : w.frozen? ⟨B, i, none⟩ = false := by unfold SampleAt at h; simp [World.frozen?, h]
theorem SampleAt.lt (h : SampleAt w B s a l v) : B < w.heap.size := lt_of_block h

theorem SampleAt.set (h : SampleAt w B s a l v) (u : Value) : SampleAt (w.setCell ⟨B, 3, none⟩ u) B s a l u := by
  unfold SampleAt at h ⊢
  simp [World.setCell, Array.getElem?_modify, h]

theorem SampleAt.grown {row : Option Nat} (h : SampleAt w B s a l v) (hg : w.grownBy w' row) (hne : some B ≠ row) : SampleAt w' B s a l v := (hg.block B h.lt hne).trans h
theorem SampleAt.below {C : Nat} (h : SampleAt w B s a l v) (hb : Below C w w') (hB : B < C) : SampleAt w' B s a l v := (hb.block B hB).trans h
theorem SampleAt.drew (h : SampleAt w B s a l v) : SampleAt w.drew B s a l v := h
theorem SampleAt.alloc (h : SampleAt w B s a l v) (o : Obj) : SampleAt (w.alloc o) B s a l v := h.grown (World.grownBy_alloc w o none) (by simp)
theorem SampleAt.made (w : World) (s : ByteArray) (a : Nat) (l : Int) (v : Value) : SampleAt (w.alloc (.cells #[.string s, .float .f64 a, .int .i64 l, v] 36)) w.heap.size s a l v := heap_alloc_new w _
end

/-- The cells of the first k labels. -/
def lab (N V : List ByteArray) : Nat → List Value
  | 0 => []
  | k + 1 => lab N V k ++ [.string (N.getD k ByteArray.empty), .string (V.getD k ByteArray.empty)]

theorem Strs.below {w w' : World} {a : Option Addr} {n : Nat} {S : List ByteArray} (h : Strs w a n S) {C : Nat} (hC : w.heap.size ≤ C) (hb : Below C w w') : Strs w' a n S := by
  refine ⟨h.1, fun hn => ?_⟩
  obtain ⟨b, off, ha, hc⟩ := h.2 hn
  refine ⟨b, off, ha, fun i hi => ?_⟩
  have hlt := World.block_lt_of_cell? w _ (hc i hi)
  rw [hb.cell (p := ⟨b, off + i, none⟩) (by exact Nat.lt_of_lt_of_le hlt hC)]
  exact hc i hi

/-- What ZZnewSample leaves where the sample has braces. -/
def Made (w : World) (s : ByteArray) (a : Nat) (l : Int) (n : Nat) (N V : List ByteArray) (e : Ending) (w' : World) : Prop :=
  ∃ g cap, e = .returned (.pointer (some ⟨w.heap.size, 0, none⟩)) ∧ SampleAt w' w.heap.size s a l (.slice (some ⟨g, 0, none⟩) n cap) ∧
    w'.ownsRow (w.heap.size + 1) 38 2 (.slice (some ⟨g, 0, none⟩) n cap) n (lab N V n) ∧ Below w.heap.size w w'

/-- The round of ZZnewSample: a label appended, the field stored. -/
theorem make_next {w wr w1 : World} {s : ByteArray} {a : Nat} {l : Int} {v : Value} {N V : List ByteArray} {k g gg cap2 : Nat} {nk vk : ByteArray} {o : Obj}
    (HS : SampleAt w1 w.heap.size s a l v) (HO : w1.ownsRow (w.heap.size + 1) 38 2 (.slice (some ⟨gg, 0, none⟩) (k + 1) cap2) (k + 1) (lab N V k ++ [.string nk, .string vk]))
    (HG : (wr.alloc o).drew.grownBy w1 (some g)) (hg : w.heap.size + 1 ≤ g) (HB : Below w.heap.size w wr) (hnk : nk = N.getD k ByteArray.empty) (hvk : vk = V.getD k ByteArray.empty) :
    SampleAt (w1.setCell ⟨w.heap.size, 3, none⟩ (.slice (some ⟨gg, 0, none⟩) (k + 1) cap2)) w.heap.size s a l (.slice (some ⟨gg, 0, none⟩) (k + 1) cap2) ∧
    (w1.setCell ⟨w.heap.size, 3, none⟩ (.slice (some ⟨gg, 0, none⟩) (k + 1) cap2)).ownsRow (w.heap.size + 1) 38 2 (.slice (some ⟨gg, 0, none⟩) (k + 1) cap2) (k + 1) (lab N V (k + 1)) ∧
    Below w.heap.size w (w1.setCell ⟨w.heap.size, 3, none⟩ (.slice (some ⟨gg, 0, none⟩) (k + 1) cap2)) := by
  subst hnk hvk
  refine ⟨HS.set _, ownsRow_setCell_below HO (Nat.lt_succ_self _) _, ?_⟩
  refine Below.setCell (B := w.heap.size) (p := ⟨w.heap.size, 3, none⟩) ?_ (Nat.le_refl _) _
  have h1 : Below w.heap.size w (wr.alloc o).drew := (HB.alloc HB.size o).drew
  exact h1.grown HG h1.size (fun j hj => by cases hj; omega)

theorem make_start {w w1 : World} {o : Obj} {u : Value} (HO : w1.ownsRow (w.heap.size + 1) 38 2 u 0 []) (HG : (w.alloc o).grownBy w1 none) (N V : List ByteArray) :
    (w1.setCell ⟨w.heap.size, 3, none⟩ u).ownsRow (w.heap.size + 1) 38 2 u 0 (lab N V 0) ∧ Below w.heap.size w (w1.setCell ⟨w.heap.size, 3, none⟩ u) := by
  refine ⟨ownsRow_setCell_below HO (Nat.lt_succ_self _) _, ?_⟩
  refine Below.setCell (B := w.heap.size) (p := ⟨w.heap.size, 3, none⟩) ?_ (Nat.le_refl _) _
  have h1 : Below w.heap.size w (w.alloc o) := (Below.refl _ _).alloc (Nat.le_refl _) o
  exact h1.grown HG h1.size (fun j hj => by cases hj)

end Go.Proofs.Qxb6630595a
