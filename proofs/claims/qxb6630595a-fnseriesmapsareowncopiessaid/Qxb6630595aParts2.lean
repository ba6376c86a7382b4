/-
  PARTS for the walks of seat b6630595a, second text: a Series in memory, the map that is filled.
-/
import Derived.Test.Qxb6630595aParts
import Derived.Maps.OwnSet
import Derived.Maps.StringElems
namespace Go.Proofs.Qxb6630595a
open Go.RowKit Go.Maps

/-- (a law that the kit lacks) A float stored into a cell. -/
theorem run_store_float {P : Program} {w : World} {a : Addr} {m : Mode} (k : FloatKind) (b : Nat) : (store a (.float k b) m).run P w = stored P w a (.float k b) m := run_store P w a _ m rfl

theorem law : Keyed Try.prog 9 := string_keyed Try.underlying9

/-- Block B is a Series: its name, labels, value and line. -/
def SeriesAt (w : World) (B : Nat) (s : ByteArray) (m : Value) (a : Nat) (l : Int) : Prop :=
  w.heap[B]? = some (.cells #[.string s, m, .float .f64 a, .int .i64 l] 30 (0, 0))

section
variable {w w' : World} {B : Nat} {s : ByteArray} {a : Nat} {l : Int} {m u : Value}

theorem SeriesAt.cell0 (h : SeriesAt w B s m a l) : w.cell? ⟨B, 0, none⟩ = some (.string s) := by unfold SeriesAt at h; simp [World.cell?, h]
theorem SeriesAt.cell1 (h : SeriesAt w B s m a l) : w.cell? ⟨B, 1, none⟩ = some m := by unfold SeriesAt at h; simp [World.cell?, h]
theorem SeriesAt.cell2 (h : SeriesAt w B s m a l) : w.cell? ⟨B, 2, none⟩ = some (.float .f64 a) := by unfold SeriesAt at h; simp [World.cell?, h]
theorem SeriesAt.cell3 (h : SeriesAt w B s m a l) : w.cell? ⟨B, 3, none⟩ = some (.int .i64 l) := by unfold SeriesAt at h; simp [World.cell?, h]
theorem SeriesAt.free (h : SeriesAt w B s m a l) (i : Nat) : w.frozen? ⟨B, i, none⟩ = false := by unfold SeriesAt at h; simp [World.frozen?, h]
theorem SeriesAt.lt (h : SeriesAt w B s m a l) : B < w.heap.size := lt_of_block h
theorem SeriesAt.set (h : SeriesAt w B s m a l) (u : Value) : SeriesAt (w.setCell ⟨B, 1, none⟩ u) B s u a l := by
  unfold SeriesAt at h ⊢
  simp [World.setCell, Array.getElem?_modify, h]
theorem SeriesAt.grown {row : Option Nat} (h : SeriesAt w B s m a l) (hg : w.grownBy w' row) (hne : some B ≠ row) : SeriesAt w' B s m a l := (hg.block B h.lt hne).trans h
theorem SeriesAt.below {C : Nat} (h : SeriesAt w B s m a l) (hb : Below C w w') (hB : B < C) : SeriesAt w' B s m a l := (hb.block B hB).trans h
theorem SeriesAt.drew (h : SeriesAt w B s m a l) : SeriesAt w.drew B s m a l := h
theorem SeriesAt.alloc (h : SeriesAt w B s m a l) (o : Obj) : SeriesAt (w.alloc o) B s m a l := h.grown (World.grownBy_alloc w o none) (by simp)
end

/-- The map behind k labels. -/
def fill (N V : List ByteArray) : Nat → DataW Unit
  | 0 => .map []
  | k + 1 => (fill N V k).put (.string (N.getD k ByteArray.empty).data.toList) (.lit (.string (V.getD k ByteArray.empty).data.toList))

theorem make_map (n : Int) (w : World) : (Instr.makeMap 28 (some (.int .i64 n))).run Try.prog w = .ok (.map (some w.heap.size)) (w.alloc (.map #[] 0)) := by
  simp [Instr.makeMap, run_underlying Try.underlying28, asInt, newObj]
  rfl

theorem lab_length (N V : List ByteArray) : ∀ n, (lab N V n).length = n * 2
  | 0 => rfl
  | n + 1 => by rw [lab, List.length_append, lab_length N V n]; simp; omega

theorem lab_at (N V : List ByteArray) {k : Nat} : ∀ {n : Nat}, k < n →
    (lab N V n)[k * 2]? = some (.string (N.getD k ByteArray.empty)) ∧ (lab N V n)[k * 2 + 1]? = some (.string (V.getD k ByteArray.empty))
  | n + 1, h => by
    by_cases e : k = n
    · subst e
      have hl := lab_length N V k
      rw [lab]
      constructor
      · rw [List.getElem?_append_right (by omega), hl, Nat.sub_self]; rfl
      · rw [List.getElem?_append_right (by omega), hl, show k * 2 + 1 - k * 2 = 1 by omega]; rfl
    · have hl := lab_length N V n
      have h' := lab_at N V (k := k) (n := n) (by omega)
      rw [lab, List.getElem?_append_left (by omega), List.getElem?_append_left (by omega)]
      exact h'

theorem lab_cell {w : World} {base g n cap : Nat} {N V : List ByteArray} (h : w.ownsRow base 38 2 (.slice (some ⟨g, 0, none⟩) n cap) n (lab N V n)) {k : Nat} (hk : k < n) :
    w.cell? ⟨g, k * 2, none⟩ = some (.string (N.getD k ByteArray.empty)) ∧ w.cell? ⟨g, k * 2 + 1, none⟩ = some (.string (V.getD k ByteArray.empty)) := by
  have h1 := lab_at N V hk
  rw [h.cellAt (k * 2) (by omega), h.cellAt (k * 2 + 1) (by omega)]
  exact h1

theorem series_next {w wr w1 : World} {s : ByteArray} {a : Nat} {l : Int} {N V : List ByteArray} {k : Nat} {nk vk : ByteArray} {o : Obj}
    (HR : SeriesAt wr w.heap.size ⟨#[]⟩ (.map none) 0 0) (HS : SeriesAt wr (w.heap.size + 1) s (.map (some (w.heap.size + 2))) a l)
    (HB : Below w.heap.size w wr)
    (HO : w1.ownsMap Try.prog 9 (plainElem Try.prog 9) (w.heap.size + 2) (k + 1) ((fill N V k).put (.string nk.data.toList) (.lit (.string vk.data.toList))))
    (HG : (wr.alloc o).grownBy w1 (some (w.heap.size + 2))) (hnk : nk = N.getD k ByteArray.empty) (hvk : vk = V.getD k ByteArray.empty) :
    SeriesAt w1 w.heap.size ⟨#[]⟩ (.map none) 0 0 ∧ SeriesAt w1 (w.heap.size + 1) s (.map (some (w.heap.size + 2))) a l ∧
    w1.ownsMap Try.prog 9 (plainElem Try.prog 9) (w.heap.size + 2) (k + 1) (fill N V (k + 1)) ∧ Below w.heap.size w w1 := by
  subst hnk hvk
  refine ⟨(HR.alloc o).grown HG (by simp), (HS.alloc o).grown HG (by simp), HO, ?_⟩
  have h1 : Below w.heap.size w (wr.alloc o) := HB.alloc HB.size o
  exact h1.grown HG h1.size (fun j hj => by cases hj; omega)

theorem series_end {w wr : World} {k n : Nat} {N V : List ByteArray} (HM : wr.ownsMap Try.prog 9 (plainElem Try.prog 9) (w.heap.size + 2) k (fill N V k)) (HB : Below w.heap.size w wr) (hkn : k = n) (x0 x1 x2 x3 : Value) :
    ((((wr.setCell ⟨w.heap.size, 0, none⟩ x0).setCell ⟨w.heap.size, 1, none⟩ x1).setCell ⟨w.heap.size, 2, none⟩ x2).setCell ⟨w.heap.size, 3, none⟩ x3).ownsMap Try.prog 9 (plainElem Try.prog 9) (w.heap.size + 2) n (fill N V n) ∧
    Below w.heap.size w ((((wr.setCell ⟨w.heap.size, 0, none⟩ x0).setCell ⟨w.heap.size, 1, none⟩ x1).setCell ⟨w.heap.size, 2, none⟩ x2).setCell ⟨w.heap.size, 3, none⟩ x3) := by
  subst hkn
  have hne : w.heap.size + 2 ≠ w.heap.size := by omega
  refine ⟨(((HM.setCell (a := ⟨w.heap.size, 0, none⟩) hne x0).setCell (a := ⟨w.heap.size, 1, none⟩) hne x1).setCell (a := ⟨w.heap.size, 2, none⟩) hne x2).setCell (a := ⟨w.heap.size, 3, none⟩) hne x3, ?_⟩
  exact (((HB.setCell (p := ⟨w.heap.size, 0, none⟩) (Nat.le_refl _) x0).setCell (p := ⟨w.heap.size, 1, none⟩) (Nat.le_refl _) x1).setCell (p := ⟨w.heap.size, 2, none⟩) (Nat.le_refl _) x2).setCell (p := ⟨w.heap.size, 3, none⟩) (Nat.le_refl _) x3

theorem series_start (w : World) (o1 o2 : Obj) (N V : List ByteArray) {s1 s2 : ByteArray} {m1 m2 : Value} {a1 a2 : Nat} {l1 l2 : Int}
    (e1 : o1 = .cells #[.string s1, m1, .float .f64 a1, .int .i64 l1] 30) (e2 : o2 = .cells #[.string s2, m2, .float .f64 a2, .int .i64 l2] 30) :
    SeriesAt (((w.alloc o1).alloc o2).alloc (.map #[] 0)).drew w.heap.size s1 m1 a1 l1 ∧ SeriesAt (((w.alloc o1).alloc o2).alloc (.map #[] 0)).drew (w.heap.size + 1) s2 m2 a2 l2 ∧
    (((w.alloc o1).alloc o2).alloc (.map #[] 0)).drew.ownsMap Try.prog 9 (plainElem Try.prog 9) (w.heap.size + 2) 0 (fill N V 0) ∧
    Below w.heap.size w (((w.alloc o1).alloc o2).alloc (.map #[] 0)).drew := by
  subst e1 e2
  have h1 : SeriesAt (w.alloc (.cells #[.string s1, m1, .float .f64 a1, .int .i64 l1] 30)) w.heap.size s1 m1 a1 l1 := heap_alloc_new w _
  have h2 : SeriesAt ((w.alloc (.cells #[.string s1, m1, .float .f64 a1, .int .i64 l1] 30)).alloc (.cells #[.string s2, m2, .float .f64 a2, .int .i64 l2] 30)) (w.heap.size + 1) s2 m2 a2 l2 := by
    have := heap_alloc_new (w.alloc (.cells #[.string s1, m1, .float .f64 a1, .int .i64 l1] 30)) (.cells #[.string s2, m2, .float .f64 a2, .int .i64 l2] 30)
    rw [World.size_alloc] at this
    exact this
  refine ⟨((h1.alloc _).alloc _).drew, (h2.alloc _).drew, ?_, (((Below.refl _ _).alloc (Nat.le_refl _) _).alloc (by simp) _).alloc (by simp; omega) _ |>.drew⟩
  have h3 := World.ownsMap_made ((w.alloc (.cells #[.string s1, m1, .float .f64 a1, .int .i64 l1] 30)).alloc (.cells #[.string s2, m2, .float .f64 a2, .int .i64 l2] 30)) Try.prog 9 (plainElem (H := Unit) Try.prog 9)
  rw [World.size_alloc, World.size_alloc] at h3
  exact h3.drew

end Go.Proofs.Qxb6630595a
