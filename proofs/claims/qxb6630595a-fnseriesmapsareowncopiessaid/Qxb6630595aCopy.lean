/-
  PARTS for the walks of seat b6630595a, third text: a slice of strings made anew and filled by copy.
-/
import Derived.Test.Qxb6630595aLaw
import Derived.Laws.CopyOwn
import Derived.Deep.Draws
namespace Go.Proofs.Qxb6630595a
open Go.RowKit Go.Maps

theorem made_row {w : World} {base g n : Nat} {xs : List Value} (h : w.ownsRow base 9 1 (.slice (some ⟨g, 0, none⟩) n n) n xs) : ∃ cur : List Value, cur.length = n ∧ w.heap[g]? = some (.cells cur.toArray 9 (0, 0)) := by
  rcases h.2 with ⟨e, _⟩ | ⟨g', cap', cur, hv, _, hg, _, _, hsz, _⟩
  · cases e
  · cases hv
    exact ⟨cur.toList, by simpa using hsz, by simpa using hg⟩

theorem copied {w : World} {g n : Nat} {cur : List Value} {N : List ByteArray} (hcur : cur.length = n) (hN : N.length = n) (h : w.heap[g]? = some (.cells (splice cur 0 (N.map Value.string)).toArray 9 (0, 0))) : Strs w (some ⟨g, 0, none⟩) n N := by
  refine ⟨hN, fun _ => ⟨g, 0, rfl, fun i hi => ?_⟩⟩
  have e : splice cur 0 (N.map Value.string) = N.map Value.string := by
    unfold splice
    rw [List.drop_eq_nil_of_le (by simp; omega)]
    simp
  rw [e] at h
  have hi' : i < N.length := by omega
  simp [World.cell?, h, hi']

theorem src_of {w : World} {a : Option Addr} {n : Nat} {N : List ByteArray} (h : Strs w a n N) : 0 < (N.map Value.string).length → ∃ ad, a = some ad ∧ ∀ j v, (N.map Value.string)[j]? = some v → w.cell? (ad.add j) = some v := by
  intro hp
  have hl := h.1
  obtain ⟨b, off, rfl, hc⟩ := h.2 (by simp at hp; omega)
  refine ⟨_, rfl, fun j v hv => ?_⟩
  have hj : j < N.length := by
    rcases Nat.lt_or_ge j N.length with h' | h'
    · exact h'
    · rw [List.getElem?_eq_none (by simpa using h')] at hv; cases hv
  have hadd : (⟨b, off, none⟩ : Addr).add j = ⟨b, off + j, none⟩ := by unfold Addr.add; split <;> simp_all
  rw [hadd, hc j (by omega), ← hv]
  simp [hj]

theorem one_cells (N : List ByteArray) : ∀ v ∈ N.map Value.string, v.oneCell' = true := by
  intro v hv
  obtain ⟨x, _, rfl⟩ := List.mem_map.1 hv
  rfl

theorem copy_run {w w1 : World} {a : Option Addr} {n g c : Nat} {N : List ByteArray} {cur : List Value} (h : Strs w a n N) (hb : Below w.heap.size w w1) (hrow : w1.heap[g]? = some (.cells cur.toArray 9 (0, 0))) (hcur : cur.length = n) (hg : w.heap.size ≤ g) :
    ∃ w2, (Builtin.copy_ #[23, 23] 3 #[.slice (some ⟨g, 0, none⟩) n n, .slice a n c]).run Try.prog w1 = .ok (.int .i64 n) w2 ∧ Strs w2 (some ⟨g, 0, none⟩) n N ∧ Below w.heap.size w w2 := by
  obtain ⟨i0, hi, _, hz1, _⟩ := info_parts info9
  have hsz : (Try.prog.info? 9).map (·.size) = some 1 := by rw [hi]; simp [hz1]
  have hl := h.1
  by_cases h0 : n = 0
  · subst h0
    refine ⟨w1, ?_, ⟨hl, fun h => absurd h (by omega)⟩, hb⟩
    exact run_copy_none (P := Try.prog) w1 23 23 3 9 _ _ 0 0 0 c Try.underlying23 hsz (Nat.min_self 0)
  · obtain ⟨ad, rfl, hsrc⟩ := src_of (h.below (Nat.le_refl _) hb) (by simp; omega)
    have hrun := run_copy_row (P := Try.prog) w1 23 23 3 9 g 0 n n ad n c cur.toArray 9 (N.map Value.string) Try.underlying23 hsz hrow (by rw [List.length_map, hl]; exact (Nat.min_self n).symm) hsrc (by simp; omega) (one_cells N)
    have e : (List.take 0 cur.toArray.toList ++ List.map Value.string N ++ List.drop (0 + (List.map Value.string N).length) cur.toArray.toList) = splice cur 0 (N.map Value.string) := by simp [splice]
    rw [e, List.length_map, hl] at hrun
    exact ⟨_, hrun, copied hcur hl (setRow_heap w1 g _ _ 9 _ hrow), below_setRow hb hg _⟩

/-- What the loops read: the two lists of strings, the map. -/
def Stage (w wr : World) (M n : Nat) (N V : List ByteArray) (a4 a5 : Option Addr) : Prop :=
  Strs wr a4 n N ∧ Strs wr a5 n V ∧ wr.ownsMap Try.prog 9 (plainElem Try.prog 9) M n (fill N V n) ∧ Below w.heap.size w wr

theorem Stage.alloc {w wr : World} {M n : Nat} {N V : List ByteArray} {a4 a5 : Option Addr} (h : Stage w wr M n N V a4 a5) (o : Obj) : Stage w (wr.alloc o) M n N V a4 a5 :=
  ⟨h.1.below (Nat.le_refl _) ((Below.refl _ _).alloc (Nat.le_refl _) o), h.2.1.below (Nat.le_refl _) ((Below.refl _ _).alloc (Nat.le_refl _) o), h.2.2.1.alloc o, h.2.2.2.alloc h.2.2.2.size o⟩

theorem Strs.drewN {w : World} {a : Option Addr} {n : Nat} {S : List ByteArray} (h : Strs w a n S) (q : Nat) : Strs (w.drewN q) a n S := h
theorem below_drewN' {B : Nat} {w wr : World} (h : Below B w wr) (q : Nat) : Below B w (wr.drewN q) := ⟨h.os, h.tape, h.output, h.size, h.block⟩

theorem Stage.drewN {w wr : World} {M n : Nat} {N V : List ByteArray} {a4 a5 : Option Addr} (h : Stage w wr M n N V a4 a5) (q : Nat) : Stage w (wr.drewN q) M n N V a4 a5 :=
  ⟨h.1.drewN q, h.2.1.drewN q, h.2.2.1, below_drewN' h.2.2.2 q⟩

theorem SeriesAt.drewN {w : World} {B : Nat} {s : ByteArray} {a : Nat} {l : Int} {m : Value} (h : SeriesAt w B s m a l) (q : Nat) : SeriesAt (w.drewN q) B s m a l := h

theorem Strs.at {w : World} {b o n k : Nat} {S : List ByteArray} (h : Strs w (some ⟨b, o, none⟩) n S) (hk : k < n) : w.cell? ⟨b, o + k, none⟩ = some (.string (nm S k)) := by
  obtain ⟨b', o', e, hc⟩ := h.2 (by omega)
  cases e
  exact hc k hk

theorem text_ne {x y : ByteArray} (h : ¬ x = y) : (x.toList == y.toList) = false := by
  rw [ByteArray.toList_eq, ByteArray.toList_eq]
  exact beq_eq_false_iff_ne.2 (fun e => h (bytes_ext e))

/-- The look-up of a name at its last place. -/
theorem Stage.look {w wr : World} {M n : Nat} {N V : List ByteArray} {a4 a5 : Option Addr} (h : Stage w wr M n N V a4 a5) (hN : ∀ i, (N.getD i ByteArray.empty).size ≤ maxLen) {k : Nat} (hk : k < n) (hl : ∀ j, k < j → j < n → nm N j ≠ nm N k) :
    (Instr.lookup 28 (.map (some M)) (.string (nm N k)) true).run Try.prog wr = .ok (.tuple #[.string (nm V k), .bool true]) wr :=
  look_at h.2.2.1 (hN k) ((fill_has N V _ n).2 ⟨k, hk, rfl⟩) (fill_at N V n hk hl)

end Go.Proofs.Qxb6630595a
