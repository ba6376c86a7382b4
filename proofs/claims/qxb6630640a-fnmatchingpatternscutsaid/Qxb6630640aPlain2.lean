/-
  THE PLAIN SIDE of seat b6630640a, second text: the list of a text cut in two.
-/
import Derived.Test.Qxb6630640aPlain
namespace Go.Proofs.Qxb6630640a

def ex : ByteArray := { data := #[120] }

/-- 't + p[1:]'. -/
def want (t r : ByteArray) : ByteArray := t ++ r.extract 1 r.size
/-- Is the pattern r of x+u kept? -/
def keep (t r : ByteArray) : Bool := !(decide (t.size = 0) && decide (r.size = 3))

theorem app_list (x y : ByteArray) : (x ++ y).data.toList = x.data.toList ++ y.data.toList := by rw [ByteArray.data_append, Array.toList_append]

theorem want_list (t r : ByteArray) : (want t r).data.toList = t.data.toList ++ r.data.toList.drop 1 := by
  unfold want
  rw [app_list, ByteArray.data_extract, Array.toList_extract, List.extract_eq_take_drop, List.take_of_length_le (by rw [List.length_drop, size_len]; omega)]

theorem at_app_left {t u : ByteArray} {i : Nat} (h : i < t.size) : at_ (t ++ u) i = at_ t i := by
  unfold at_
  rw [app_list, List.getD_eq_getElem?_getD, List.getD_eq_getElem?_getD, List.getElem?_append_left (by rw [size_len]; exact h)]

theorem at_app_right (t u : ByteArray) (i : Nat) : at_ (t ++ u) (t.size + i) = at_ u i := by
  unfold at_
  rw [app_list, List.getD_eq_getElem?_getD, List.getD_eq_getElem?_getD, List.getElem?_append_right (by rw [size_len]; omega), size_len, Nat.add_sub_cancel_left]

theorem pat_app_left {t u : ByteArray} {i : Nat} (h : i ≤ t.size) : pat (t ++ u) i = pat t i := by
  apply bytes_ext
  rw [pat_list, pat_list, app_list, List.take_append, size_len, show i - t.size = 0 by omega]
  simp

theorem pre_app (t u : ByteArray) : ∀ k, k ≤ t.size → pre (t ++ u) k = pre t k
  | 0, _ => rfl
  | k + 1, h => by rw [pre, pre, pre_app t u k (by omega), at_app_left (by omega), pat_app_left (by omega)]

theorem want_pat (t u : ByteArray) (m : Nat) : want t (pat (ex ++ u) (m + 1)) = pat (t ++ u) (t.size + m) := by
  apply bytes_ext
  have ht := size_len t
  rw [want_list, pat_list, pat_list, app_list, app_list]
  have e : (ex.data.toList ++ u.data.toList).take (m + 1) = 120 :: u.data.toList.take m := rfl
  have e2 : (t.data.toList ++ u.data.toList).take (t.size + m) = t.data.toList ++ u.data.toList.take m := by
    rw [List.take_append, ht, List.take_of_length_le (l := t.data.toList) (by omega), show t.size + m - t.size = m by omega]
  rw [e, e2]
  simp

/-- The patterns that x+u gives, cut and kept. -/
def tail (t u : ByteArray) (k : Nat) : List ByteArray := ((pre (ex ++ u) k).filter (keep t)).map (want t)

theorem size_app (x y : ByteArray) : (x ++ y).size = x.size + y.size := ByteArray.size_append
theorem size_ex : ex.size = 1 := rfl

theorem cut_law (t u : ByteArray) : ∀ m, m ≤ u.size → pre (t ++ u) (t.size + m) = pre t t.size ++ tail t u (m + 1)
  | 0, _ => by
    rw [Nat.add_zero, pre_app t u _ (Nat.le_refl _), tail, pre_one]
    simp
  | m + 1, h => by
    have ih := cut_law t u m (by omega)
    have e1 : at_ (t ++ u) (t.size + m) = at_ u m := at_app_right t u m
    have e2 : at_ (ex ++ u) (m + 1) = at_ u m := by rw [show m + 1 = ex.size + m by rw [size_ex]; omega]; exact at_app_right ex u m
    by_cases h46 : at_ u m = 46
    · have hx : pre (ex ++ u) (m + 1 + 1) = pre (ex ++ u) (m + 1) ++ [pat (ex ++ u) (m + 1)] := pre_hit (by omega) (by rw [e2]; exact h46)
      have hsz : (pat (ex ++ u) (m + 1)).size = m + 3 := by rw [size_pat (by rw [size_app, size_ex]; omega)]
      by_cases h0 : 0 < t.size + m
      · have hk : keep t (pat (ex ++ u) (m + 1)) = true := by
          unfold keep
          rw [hsz]
          by_cases ht : t.size = 0
          · rw [decide_eq_false (show ¬ m + 3 = 3 by omega)]; simp
          · rw [decide_eq_false ht]; simp
        rw [show t.size + (m + 1) = (t.size + m) + 1 by omega, pre_hit h0 (by rw [e1]; exact h46), ih, tail, tail, hx, List.filter_append, List.map_append, List.filter_cons_of_pos hk]
        simp [want_pat t u m]
      · have hk : keep t (pat (ex ++ u) (m + 1)) = false := by
          unfold keep
          rw [hsz, decide_eq_true (show t.size = 0 by omega), decide_eq_true (show m + 3 = 3 by omega)]; rfl
        have hm : pre (t ++ u) (t.size + m + 1) = pre (t ++ u) (t.size + m) := by rw [pre, if_neg (fun x => h0 x.1), List.append_nil]
        rw [show t.size + (m + 1) = (t.size + m) + 1 by omega, hm, ih, tail, tail, hx, List.filter_append, List.map_append, List.filter_cons_of_neg (by rw [hk]; simp)]
        simp
    · rw [show t.size + (m + 1) = (t.size + m) + 1 by omega, pre_miss (by rw [e1]; exact h46), ih, tail, tail, pre_miss (k := m + 1) (by rw [e2]; exact h46)]

/-- The patterns of x+u, all of them. -/
def rest (u : ByteArray) : List ByteArray := pre (ex ++ u) (ex ++ u).size
/-- Of the first j of them, those that are kept, cut. -/
def kept (t u : ByteArray) (j : Nat) : List ByteArray := (((rest u).take j).filter (keep t)).map (want t)

theorem whole_law (t u : ByteArray) : pats (t ++ u) = star :: (t ++ u) :: (pre t t.size ++ kept t u (rest u).length) := by
  have e : (t ++ u).size = t.size + u.size := size_app t u
  have e2 : (ex ++ u).size = u.size + 1 := by rw [size_app, size_ex]; omega
  unfold pats kept
  rw [e, cut_law t u _ (Nat.le_refl _), List.take_length]
  unfold rest tail
  rw [e2]

theorem kept_succ {t u : ByteArray} {j : Nat} (h : j < (rest u).length) : kept t u (j + 1) = kept t u j ++ (if keep t (nm (rest u) j) then [want t (nm (rest u) j)] else []) := by
  unfold kept
  rw [List.take_succ_eq_append_getElem h, List.filter_append, List.map_append, ← nm_lt h]
  by_cases hk : keep t (nm (rest u) j) = true
  · rw [if_pos hk, List.filter_cons_of_pos hk]; rfl
  · rw [if_neg hk, List.filter_cons_of_neg hk]; rfl

theorem kept_hit {t u : ByteArray} {j : Nat} (h : j < (rest u).length) (hk : keep t (nm (rest u) j) = true) : kept t u (j + 1) = kept t u j ++ [want t (nm (rest u) j)] := by rw [kept_succ h, if_pos hk]
theorem kept_miss {t u : ByteArray} {j : Nat} (h : j < (rest u).length) (hk : keep t (nm (rest u) j) = false) : kept t u (j + 1) = kept t u j := by rw [kept_succ h, hk]; simp

theorem kept_prefix (t u : ByteArray) {j : Nat} : ∀ d, j + d ≤ (rest u).length → ∃ M, kept t u (j + d) = kept t u j ++ M
  | 0, _ => ⟨[], by rw [Nat.add_zero, List.append_nil]⟩
  | d + 1, h => by
    obtain ⟨M, hM⟩ := kept_prefix t u (j := j) d (by omega)
    rw [← Nat.add_assoc, kept_succ (by omega), hM, List.append_assoc]
    exact ⟨_, rfl⟩

theorem nm_app_left {A B : List ByteArray} {i : Nat} (h : i < A.length) : nm (A ++ B) i = nm A i := by
  unfold nm
  rw [List.getD_eq_getElem?_getD, List.getD_eq_getElem?_getD, List.getElem?_append_left h]
theorem nm_app_right (A B : List ByteArray) (i : Nat) : nm (A ++ B) (A.length + i) = nm B i := by
  unfold nm
  rw [List.getD_eq_getElem?_getD, List.getD_eq_getElem?_getD, List.getElem?_append_right (by omega), Nat.add_sub_cancel_left]
theorem nm_two (a b : ByteArray) (L : List ByteArray) (i : Nat) : nm (a :: b :: L) (i + 2) = nm L i := rfl

/-- Place 2 + i of the whole list is place 2 + i of the left one. -/
theorem whole_left (t u : ByteArray) {i : Nat} (h : i < (pre t t.size).length) : nm (pats (t ++ u)) (i + 2) = nm (pats t) (i + 2) := by
  rw [whole_law, pats, nm_two, nm_two, nm_app_left h]

/-- The next place of the whole list is the next kept pattern. -/
theorem whole_right (t u : ByteArray) {j : Nat} (h : j < (rest u).length) (hk : keep t (nm (rest u) j) = true) :
    (pre t t.size).length + (kept t u j).length < (pre t t.size).length + (kept t u (rest u).length).length ∧
    nm (pats (t ++ u)) ((pre t t.size).length + (kept t u j).length + 2) = want t (nm (rest u) j) := by
  obtain ⟨M, hM⟩ := kept_prefix t u (j := j + 1) ((rest u).length - (j + 1)) (by omega)
  rw [show j + 1 + ((rest u).length - (j + 1)) = (rest u).length by omega, kept_hit h hk, List.append_assoc] at hM
  constructor
  · rw [hM]; simp
  · rw [whole_law, nm_two, nm_app_right, hM]
    have := nm_app_right (kept t u j) ([want t (nm (rest u) j)] ++ M) 0
    rw [Nat.add_zero] at this
    rw [this]; rfl

theorem whole_len (t u : ByteArray) : (pats (t ++ u)).length = (pre t t.size).length + (kept t u (rest u).length).length + 2 := by
  rw [whole_law]; simp

theorem kept_le (t u : ByteArray) (j : Nat) : (kept t u j).length ≤ j := by
  unfold kept
  rw [List.length_map]
  refine Nat.le_trans (List.length_filter_le _ _) ?_
  rw [List.length_take]; omega

/-- A pattern of x+u opens with x and has three bytes at least. -/
theorem rest_form (u : ByteArray) {j : Nat} (h : j < (rest u).length) : 3 ≤ (nm (rest u) j).size ∧ at_ (nm (rest u) j) 0 = 120 ∧ (nm (rest u) j).size ≤ u.size + 3 := by
  have hm : nm (rest u) j ∈ pre (ex ++ u) (ex ++ u).size := by rw [nm_lt h]; exact List.getElem_mem h
  obtain ⟨i, h0, hi, _, e⟩ := mem_pre hm
  have hs : (ex ++ u).size = u.size + 1 := by rw [size_app, size_ex]; omega
  rw [e, size_pat (by omega)]
  refine ⟨by omega, ?_, by omega⟩
  obtain ⟨i', rfl⟩ : ∃ i', i = i' + 1 := ⟨i - 1, by omega⟩
  unfold at_
  rw [pat_list, app_list]
  rfl

end Go.Proofs.Qxb6630640a
