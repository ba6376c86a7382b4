/-
  PARTS for the proofs of seat b6630595a: a slice of strings that came in, opened into what the walks ask.
-/
import Derived.Test.Qxb6630595aWalks
import Derived.ProofKit
import Derived.SliceStrings
namespace Go.Proofs.Qxb6630595a
open Go.ChangeShapes Go.WideShapes Go.ChangeAt Go.RowKit

theorem open_arg {H : Type} {enc : TypeId × Value → H} {W : World} {a : Option Addr} {len cap : Nat} {d : DataW H} {p : List MemPlace} (h : DataW.Trod enc Try.prog W 0 (fun _ => true) true 23 (.slice a len cap) d p) :
    ∃ S : List ByteArray, Strs W a len S ∧ ∀ i, (S.getD i ByteArray.empty).size ≤ maxLen := by
  obtain ⟨fuel, hf⟩ := h
  rcases open_strings Try.underlying23 Try.underlying9 (by kernel_rfl) hf with ⟨hcs, _⟩ | ⟨x, l, c, ss, hcs, _, hl, hm, hz, _, hcell, hws⟩
  · simp [Value.cells] at hcs
    obtain ⟨rfl, rfl, rfl⟩ := hcs
    exact ⟨[], ⟨rfl, fun h => absurd h (by omega)⟩, fun i => by simp [ByteArray.size, maxLen]⟩
  · simp [Value.cells] at hcs
    obtain ⟨rfl, rfl, rfl⟩ := hcs
    simp only [if_true] at hz
    refine ⟨ss.take len, ⟨by rw [List.length_take]; omega, fun hp => ?_⟩, fun i => ?_⟩
    · obtain ⟨b, off, spot⟩ := x
      have hc := hcell 0 (by omega)
      have hspot : spot = none := by simpa [Addr.add] using World.cell?_spot hc
      subst hspot
      refine ⟨b, off, rfl, fun i hi => ?_⟩
      have hadd : (⟨b, off, none⟩ : Addr).add i = ⟨b, off + i, none⟩ := by unfold Addr.add; split <;> simp_all
      rw [← hadd, hcell i (by omega)]
      rw [List.getD_eq_getElem?_getD, List.getD_eq_getElem?_getD, List.getElem?_take, if_pos hi]
    · rw [List.getD_eq_getElem?_getD]
      cases e : (ss.take len)[i]? with
      | none => simp [ByteArray.size, maxLen]
      | some s => exact hws s (List.mem_of_mem_take (List.mem_of_getElem? e))

end Go.Proofs.Qxb6630595a
