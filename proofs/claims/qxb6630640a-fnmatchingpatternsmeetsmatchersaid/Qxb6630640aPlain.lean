/-
  THE PLAIN SIDE of seat b6630640a: the list of patterns that match a type. No Go in sight.
-/
namespace Go.Proofs.Qxb6630640a

/-- The text up to the stop at k, and '.*'. -/
def pat (t : ByteArray) (k : Nat) : ByteArray := t.extract 0 k ++ { data := #[46, 42] }
def star : ByteArray := { data := #[42] }

/-- The byte at place i, as a number. -/
def at_ (t : ByteArray) (i : Nat) : Nat := (t.data.toList.getD i 0).toNat

/-- The patterns of the stops below k that have text before them. -/
def pre (t : ByteArray) : Nat → List ByteArray
  | 0 => []
  | k + 1 => pre t k ++ (if 0 < k ∧ at_ t k = 46 then [pat t k] else [])

def pats (t : ByteArray) : List ByteArray := star :: t :: pre t t.size

theorem bytes_ext {x y : ByteArray} (h : x.data.toList = y.data.toList) : x = y := by
  cases x; cases y
  simp only at h
  rw [Array.toList_inj] at h
  rw [h]

theorem size_len (t : ByteArray) : t.data.toList.length = t.size := by rw [Array.length_toList]; rfl

theorem pat_list (t : ByteArray) (k : Nat) : (pat t k).data.toList = t.data.toList.take k ++ [46, 42] := by
  unfold pat
  rw [ByteArray.data_append, Array.toList_append, ByteArray.data_extract, Array.toList_extract, List.extract_eq_take_drop]
  simp

theorem pre_hit {t : ByteArray} {k : Nat} (h0 : 0 < k) (h : at_ t k = 46) : pre t (k + 1) = pre t k ++ [pat t k] := by
  rw [pre, if_pos ⟨h0, h⟩]
theorem pre_miss {t : ByteArray} {k : Nat} (h : ¬ at_ t k = 46) : pre t (k + 1) = pre t k := by
  rw [pre, if_neg (fun x => h x.2), List.append_nil]
theorem pre_one (t : ByteArray) : pre t 1 = [] := by
  rw [pre, pre, if_neg (fun x => absurd x.1 (by omega))]; rfl

theorem pre_le (t : ByteArray) : ∀ k, (pre t k).length ≤ k
  | 0 => Nat.le_refl _
  | k + 1 => by
    have := pre_le t k
    rw [pre, List.length_append]
    split
    · simp; omega
    · simp; omega

/-- Element i of a list of texts. -/
def nm (L : List ByteArray) (i : Nat) : ByteArray := L.getD i ByteArray.empty

theorem nm_lt {L : List ByteArray} {i : Nat} (h : i < L.length) : nm L i = L[i] := by
  unfold nm
  rw [List.getD_eq_getElem?_getD, List.getElem?_eq_getElem h]; rfl

/-! ### the matcher -/
/-- Is p the pattern of a stop of t? as the matcher asks it -/
def isPre (p t : ByteArray) : Bool := decide (3 ≤ p.size) && (decide (at_ p (p.size - 2) = 46) && (decide (at_ p (p.size - 1) = 42) && (decide (p.size - 1 ≤ t.size) && decide (t.data.toList.take (p.size - 1) = p.data.toList.take (p.size - 1)))))

def b2n (b : Bool) : Nat := if b then 1 else 0
def mc (p t : ByteArray) : Nat := b2n (decide (p.data.toList = star.data.toList)) + b2n (decide (p.data.toList = t.data.toList)) + b2n (isPre p t)

theorem at_lt {t : ByteArray} {i : Nat} (h : i < t.size) : at_ t i = (t.data.toList[i]'(by rw [size_len]; exact h)).toNat := by
  unfold at_
  rw [List.getD_eq_getElem?_getD, List.getElem?_eq_getElem (by rw [size_len]; exact h)]; rfl

theorem byte_of {t : ByteArray} {i : Nat} {c : UInt8} (h : i < t.size) (e : at_ t i = c.toNat) : t.data.toList[i]'(by rw [size_len]; exact h) = c := by
  rw [at_lt h] at e
  exact UInt8.toNat_inj.1 e

theorem size_pat {t : ByteArray} {k : Nat} (h : k ≤ t.size) : (pat t k).size = k + 2 := by
  rw [← size_len, pat_list, List.length_append, List.length_take, size_len]
  simp; omega

theorem isPre_pat {t : ByteArray} {k : Nat} (h0 : 0 < k) (h : k < t.size) (e : at_ t k = 46) : isPre (pat t k) t = true := by
  have hs := size_pat (t := t) (k := k) (by omega)
  have hl := size_len t
  have e1 : at_ (pat t k) k = 46 := by
    unfold at_
    rw [pat_list, List.getD_eq_getElem?_getD, List.getElem?_append_right (by simp; omega)]
    simp [List.length_take, hl, Nat.min_eq_left (Nat.le_of_lt h)]
  have e2 : at_ (pat t k) (k + 1) = 42 := by
    unfold at_
    rw [pat_list, List.getD_eq_getElem?_getD, List.getElem?_append_right (by simp; omega)]
    simp [List.length_take, hl, Nat.min_eq_left (Nat.le_of_lt h)]
  have e3 : t.data.toList.take (k + 1) = (pat t k).data.toList.take (k + 1) := by
    rw [pat_list, List.take_succ_eq_append_getElem (by omega), byte_of (c := 46) h e, List.take_append, List.take_of_length_le (l := List.take k t.data.toList) (by rw [List.length_take]; omega), List.length_take, hl, Nat.min_eq_left (Nat.le_of_lt h), Nat.add_sub_cancel_left]
    rfl
  simp only [isPre, hs, Bool.and_eq_true, decide_eq_true_eq]
  exact ⟨by omega, e1, e2, by omega, e3⟩

theorem pat_of_isPre {p t : ByteArray} (h : isPre p t = true) : ∃ i, 0 < i ∧ i < t.size ∧ at_ t i = 46 ∧ p = pat t i := by
  simp only [isPre, Bool.and_eq_true, decide_eq_true_eq] at h
  obtain ⟨h3, h46, h42, hle, he⟩ := h
  have hp := size_len p
  have ht := size_len t
  obtain ⟨i, hi⟩ : ∃ i, p.size = i + 2 := ⟨p.size - 2, by omega⟩
  rw [hi] at h46 h42 hle he
  rw [show i + 2 - 2 = i by omega] at h46
  rw [show i + 2 - 1 = i + 1 by omega] at h42 hle he
  have hpi : p.data.toList[i]'(by omega) = 46 := byte_of (by omega) h46
  have hpi1 : p.data.toList[i + 1]'(by omega) = 42 := byte_of (by omega) h42
  have hti : t.data.toList[i]'(by omega) = p.data.toList[i]'(by omega) := by
    have h1 : (t.data.toList.take (i + 1))[i]? = (p.data.toList.take (i + 1))[i]? := by rw [he]
    rw [List.getElem?_take, List.getElem?_take, if_pos (by omega), if_pos (by omega), List.getElem?_eq_getElem (by omega), List.getElem?_eq_getElem (by omega)] at h1
    exact Option.some.inj h1
  refine ⟨i, by omega, by omega, ?_, ?_⟩
  · rw [at_lt (by omega), hti, hpi]; rfl
  · apply bytes_ext
    rw [pat_list]
    have e1 : t.data.toList.take i = p.data.toList.take i := by
      have := congrArg (List.take i) he
      rw [List.take_take, List.take_take] at this
      simpa using this
    rw [e1]
    have e2 : p.data.toList = p.data.toList.take (i + 2) := (List.take_of_length_le (by omega)).symm
    conv => lhs; rw [e2]
    rw [List.take_succ_eq_append_getElem (by omega), List.take_succ_eq_append_getElem (by omega), hpi, hpi1]
    simp

/-! ### how often -/
def cnt (L : List ByteArray) (p : ByteArray) : Nat := (L.filter fun x => decide (x.data.toList = p.data.toList)).length

theorem cnt_append (A B : List ByteArray) (p : ByteArray) : cnt (A ++ B) p = cnt A p + cnt B p := by
  unfold cnt; rw [List.filter_append, List.length_append]
theorem cnt_one (x p : ByteArray) : cnt [x] p = b2n (decide (x.data.toList = p.data.toList)) := by
  unfold cnt
  rw [List.filter_cons]
  cases h : decide (x.data.toList = p.data.toList)
  · rw [if_neg (by simp)]; rfl
  · rw [if_pos rfl]; rfl

theorem pat_inj {t : ByteArray} {i j : Nat} (hi : i ≤ t.size) (hj : j ≤ t.size) (h : pat t i = pat t j) : i = j := by
  have := congrArg ByteArray.size h
  rw [size_pat hi, size_pat hj] at this
  omega

theorem cnt_pre (p t : ByteArray) : ∀ k, k ≤ t.size → ((∃ i, 0 < i ∧ i < k ∧ at_ t i = 46 ∧ p = pat t i) → cnt (pre t k) p = 1) ∧ ((¬ ∃ i, 0 < i ∧ i < k ∧ at_ t i = 46 ∧ p = pat t i) → cnt (pre t k) p = 0)
  | 0, _ => ⟨fun ⟨i, _, h, _⟩ => absurd h (by omega), fun _ => rfl⟩
  | k + 1, h => by
    obtain ⟨ih1, ih2⟩ := cnt_pre p t k (by omega)
    by_cases hk : 0 < k ∧ at_ t k = 46
    · rw [pre_hit hk.1 hk.2, cnt_append, cnt_one]
      by_cases hp : p = pat t k
      · have hno : ¬ ∃ i, 0 < i ∧ i < k ∧ at_ t i = 46 ∧ p = pat t i := fun ⟨i, _, hi, _, e⟩ => by
          have := pat_inj (by omega) (by omega) (hp.symm.trans e)
          omega
        rw [ih2 hno, hp]
        exact ⟨fun _ => by simp [b2n], fun hn => absurd ⟨k, hk.1, by omega, hk.2, rfl⟩ hn⟩
      · have hf : decide ((pat t k).data.toList = p.data.toList) = false := by
          rw [decide_eq_false_iff_not]; exact fun e => hp (bytes_ext e.symm)
        rw [hf]
        constructor
        · rintro ⟨i, h0, hi, h46, e⟩
          rcases Nat.lt_succ_iff_lt_or_eq.1 hi with hi | rfl
          · rw [ih1 ⟨i, h0, hi, h46, e⟩]; rfl
          · exact absurd e hp
        · intro hn
          rw [ih2 (fun ⟨i, h0, hi, h46, e⟩ => hn ⟨i, h0, by omega, h46, e⟩)]; rfl
    · have e : pre t (k + 1) = pre t k := by rw [pre, if_neg hk, List.append_nil]
      rw [e]
      constructor
      · rintro ⟨i, h0, hi, h46, e⟩
        rcases Nat.lt_succ_iff_lt_or_eq.1 hi with hi | rfl
        · exact ih1 ⟨i, h0, hi, h46, e⟩
        · exact absurd ⟨h0, h46⟩ hk
      · intro hn
        exact ih2 (fun ⟨i, h0, hi, h46, e⟩ => hn ⟨i, h0, by omega, h46, e⟩)

theorem cnt_pats (p t : ByteArray) : cnt (pats t) p = mc p t := by
  have e : pats t = [star] ++ ([t] ++ pre t t.size) := rfl
  rw [e, cnt_append, cnt_append, cnt_one, cnt_one]
  have hc := cnt_pre p t t.size (Nat.le_refl _)
  have hpre : cnt (pre t t.size) p = b2n (isPre p t) := by
    cases h : isPre p t
    · rw [hc.2 (fun ⟨i, h0, hi, h46, e⟩ => by rw [e, isPre_pat h0 hi h46] at h; cases h)]; rfl
    · rw [hc.1 (pat_of_isPre h)]; rfl
  rw [hpre]
  unfold mc
  have c1 : decide (star.data.toList = p.data.toList) = decide (p.data.toList = star.data.toList) := by rw [decide_eq_decide]; exact eq_comm
  have c2 : decide (t.data.toList = p.data.toList) = decide (p.data.toList = t.data.toList) := by rw [decide_eq_decide]; exact eq_comm
  rw [c1, c2]
  omega

theorem mem_pre {t x : ByteArray} : ∀ {k}, x ∈ pre t k → ∃ i, 0 < i ∧ i < k ∧ at_ t i = 46 ∧ x = pat t i
  | 0, h => by cases h
  | k + 1, h => by
    rw [pre, List.mem_append] at h
    rcases h with h | h
    · obtain ⟨i, h0, hi, r⟩ := mem_pre h
      exact ⟨i, h0, by omega, r⟩
    · by_cases hk : 0 < k ∧ at_ t k = 46
      · rw [if_pos hk] at h
        exact ⟨k, hk.1, by omega, hk.2, by simpa using h⟩
      · rw [if_neg hk] at h; cases h

/-- Every element of the list is a pattern that matches. -/
theorem mc_pos {t x : ByteArray} (h : x ∈ pats t) : 0 < mc x t := by
  rcases List.mem_cons.1 h with rfl | h
  · simp [mc, b2n]; omega
  · rcases List.mem_cons.1 h with rfl | h
    · simp [mc, b2n]; omega
    · obtain ⟨i, h0, hi, h46, rfl⟩ := mem_pre h
      simp [mc, b2n, isPre_pat h0 hi h46]

end Go.Proofs.Qxb6630640a
