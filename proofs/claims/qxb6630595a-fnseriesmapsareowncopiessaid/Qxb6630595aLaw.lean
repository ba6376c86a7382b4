/-
  THE PLAIN SIDE of seat b6630595a: what the map behind k labels holds; how many distinct names a list has. No walk here.
-/
import Derived.Test.Qxb6630595aParts2
namespace Go.Proofs.Qxb6630595a
open Go.RowKit Go.Maps

def key (x : ByteArray) : Lit := .string x.data.toList

theorem bytes_ext {x y : ByteArray} (h : x.data.toList = y.data.toList) : x = y := by
  cases x; cases y
  simp only at h
  rw [Array.toList_inj] at h
  rw [h]

theorem key_inj {x y : ByteArray} (h : key x = key y) : x = y := by
  simp only [key, Lit.string.injEq] at h
  exact bytes_ext h

theorem key_ok (x : ByteArray) : WideAt.IsKeyLit (key x) := trivial

/-- The name of label i. -/
def nm (N : List ByteArray) (i : Nat) : ByteArray := N.getD i ByteArray.empty

theorem fill_succ (N V : List ByteArray) (k : Nat) : fill N V (k + 1) = (fill N V k).put (key (nm N k)) (.lit (.string (nm V k).data.toList)) := rfl

theorem fill_tidy (N V : List ByteArray) : ∀ k, Tidy (fill N V k)
  | 0 => tidy_empty
  | k + 1 => (fill_tidy N V k).put (key_ok _) _

theorem fill_has (N V : List ByteArray) (x : ByteArray) : ∀ k, has (fill N V k) (key x) = true ↔ ∃ i, i < k ∧ nm N i = x
  | 0 => by
    constructor
    · intro h; cases h
    · rintro ⟨i, h, _⟩; omega
  | k + 1 => by
    rw [fill_succ]
    by_cases e : nm N k = x
    · subst e
      rw [has_put_same (fill_tidy N V k).isMap (key_ok _)]
      exact ⟨fun _ => ⟨k, by omega, rfl⟩, fun _ => rfl⟩
    · rw [has_put_other (fun h => e (key_inj h).symm), fill_has N V x k]
      constructor
      · rintro ⟨i, h, hi⟩; exact ⟨i, by omega, hi⟩
      · rintro ⟨i, h, hi⟩
        refine ⟨i, ?_, hi⟩
        rcases Nat.lt_succ_iff_lt_or_eq.1 h with h | rfl
        · exact h
        · exact absurd hi e

theorem fill_at (N V : List ByteArray) {k : Nat} : ∀ m, k < m → (∀ j, k < j → j < m → nm N j ≠ nm N k) → ∀ z, (fill N V m).atKey (key (nm N k)) z = .lit (.string (nm V k).data.toList)
  | m + 1, h, hl, z => by
    rw [fill_succ]
    by_cases e : k = m
    · subst e
      exact atKey_put_same (fill_tidy N V k).isMap (key_ok _) _ _
    · rw [atKey_put_other (fun h' => hl m (by omega) (by omega) (key_inj h').symm)]
      exact fill_at N V m (by omega) (fun j h1 h2 => hl j h1 (by omega)) z

/-- How many elements have no equal behind them: how many distinct ones there are. -/
def lasts : List (List UInt8) → Nat
  | [] => 0
  | x :: t => lasts t + if x ∈ t then 0 else 1

theorem lasts_snoc (x : List UInt8) : ∀ l : List (List UInt8), lasts (l ++ [x]) = lasts l + if x ∈ l then 0 else 1
  | [] => by simp [lasts]
  | y :: t => by
    rw [List.cons_append, lasts, lasts_snoc x t, lasts]
    by_cases e : y = x
    · subst e
      by_cases h : y ∈ t <;> simp [h]
    · have e' : ¬ x = y := fun h => e h.symm
      by_cases h : y ∈ t <;> by_cases h' : x ∈ t <;> simp [h, h', e, e']

/-- The names as lists of bytes. -/
def txt (N : List ByteArray) : List (List UInt8) := N.map fun x => x.data.toList

theorem txt_length (N : List ByteArray) : (txt N).length = N.length := by simp [txt]

theorem txt_at {N : List ByteArray} {k : Nat} (h : k < (txt N).length) : (txt N)[k] = (nm N k).data.toList := by
  have h' : k < N.length := by rw [txt_length] at h; exact h
  simp only [txt, List.getElem_map]
  unfold nm
  rw [List.getD_eq_getElem?_getD, List.getElem?_eq_getElem h']; rfl

theorem mem_take {N : List ByteArray} {x : ByteArray} {k : Nat} (hk : k ≤ N.length) : x.data.toList ∈ (txt N).take k ↔ ∃ i, i < k ∧ nm N i = x := by
  have hl := txt_length N
  rw [List.mem_take_iff_getElem]
  constructor
  · rintro ⟨i, hi, e⟩
    rw [txt_at] at e
    exact ⟨i, by omega, bytes_ext e⟩
  · rintro ⟨i, hi, e⟩
    refine ⟨i, by omega, ?_⟩
    rw [txt_at, e]

theorem fill_size (N V : List ByteArray) : ∀ k, k ≤ N.length → size (fill N V k) = lasts ((txt N).take k)
  | 0, _ => by simp [fill, lasts, size]
  | k + 1, h => by
    have hl := txt_length N
    rw [fill_succ, size_put (fill_tidy N V k), fill_size N V k (by omega), List.take_succ_eq_append_getElem (by omega), lasts_snoc, txt_at]
    by_cases hm : (nm N k).data.toList ∈ (txt N).take k
    · rw [if_pos hm, if_pos ((fill_has N V _ k).2 ((mem_take (by omega)).1 hm))]; omega
    · have : ¬ has (fill N V k) (key (nm N k)) = true := fun h' => hm ((mem_take (by omega)).2 ((fill_has N V _ k).1 h'))
      rw [if_neg hm, if_neg this]

theorem size_all (N V : List ByteArray) : size (fill N V N.length) = lasts (txt N) := by
  rw [fill_size N V _ (Nat.le_refl _), List.take_of_length_le (by rw [txt_length]; exact Nat.le_refl _)]

theorem mem_drop {N : List ByteArray} {k : Nat} (_h : k < N.length) : (nm N k).data.toList ∈ (txt N).drop (k + 1) ↔ ∃ j, k < j ∧ j < N.length ∧ nm N j = nm N k := by
  have hl := txt_length N
  rw [List.mem_drop_iff_getElem]
  constructor
  · rintro ⟨j, hj, e⟩
    rw [txt_at] at e
    exact ⟨k + 1 + j, by omega, by omega, bytes_ext e⟩
  · rintro ⟨j, h1, h2, e⟩
    refine ⟨j - (k + 1), by omega, ?_⟩
    rw [txt_at, show k + 1 + (j - (k + 1)) = j by omega, e]

/-- A name that stands again further on counts nothing here. -/
theorem lasts_again {N : List ByteArray} {k j d : Nat} (hd : d + lasts ((txt N).drop k) = lasts (txt N)) (h1 : k < j) (h2 : j < N.length) (e : nm N j = nm N k) : d + lasts ((txt N).drop (k + 1)) = lasts (txt N) := by
  have hl := txt_length N
  rw [List.drop_eq_getElem_cons (by omega), lasts, txt_at, if_pos ((mem_drop (by omega)).2 ⟨j, h1, h2, e⟩)] at hd
  exact hd

theorem lasts_last {N : List ByteArray} {k d : Nat} (hd : d + lasts ((txt N).drop k) = lasts (txt N)) (h : k < N.length) (hn : ∀ j, k < j → j < N.length → nm N j ≠ nm N k) : d + 1 + lasts ((txt N).drop (k + 1)) = lasts (txt N) := by
  have hl := txt_length N
  rw [List.drop_eq_getElem_cons (by omega), lasts, txt_at, if_neg (fun x => by obtain ⟨j, h1, h2, e⟩ := (mem_drop h).1 x; exact hn j h1 h2 e)] at hd
  omega

theorem lasts_end {N : List ByteArray} {k d : Nat} (hd : d + lasts ((txt N).drop k) = lasts (txt N)) (h : N.length ≤ k) : d = lasts (txt N) := by
  rw [List.drop_eq_nil_of_le (by rw [txt_length]; exact h), lasts] at hd
  omega

theorem lasts_le : ∀ l : List (List UInt8), lasts l ≤ l.length
  | [] => Nat.le_refl _
  | x :: t => by
    have := lasts_le t
    rw [lasts, List.length_cons]
    split <;> omega

theorem zero9 (w : World) : (zeroValue 9).run Try.prog w = .ok (.string ByteArray.empty) w := by kernel_rfl

/-- What 'v, ok := m[x]' gives where the map holds v at x. -/
theorem look_at {w : World} {M n : Nat} {D : DataW Unit} (h : w.ownsMap Try.prog 9 (plainElem Try.prog 9) M n D) {x v : ByteArray} (hx : x.size ≤ maxLen) (hh : has D (key x) = true) (ha : ∀ z, D.atKey (key x) z = .lit (.string v.data.toList)) :
    (Instr.lookup 28 (.map (some M)) (.string x) true).run Try.prog w = .ok (.tuple #[.string v, .bool true]) w := by
  obtain ⟨u, ps, hrun, hu⟩ := h.look_ok law Try.underlying28 (zero9 w) (plainElem_string (H := Unit) Try.underlying9 (s := ByteArray.empty) (by decide)) (WideMaps.keyOf_string_mk Try.underlying9 hx)
  obtain ⟨s, rfl, hs, _⟩ := plainElem_string_inv Try.underlying9 hu
  have e : (DataW.lit (Lit.string v.data.toList) : DataW Unit) = .lit (.string s.data.toList) := by
    have := congrArg Prod.fst hs
    rw [show (Lit.string x.data.toList) = key x from rfl, ha] at this
    exact this
  have e' : v.data.toList = s.data.toList := by injection e with e; injection e
  rw [← bytes_ext e'] at hrun
  rw [show has D (Lit.string x.data.toList) = true from hh] at hrun
  exact hrun

end Go.Proofs.Qxb6630595a
