/-
  PARTS for the walk of FnSeriesMapsAreOwnCopies: a map emptied name by name; what is there at the end. No walk here.
-/
import Derived.Test.Qxb6630595aCopy
namespace Go.Proofs.Qxb6630595a
open Go.RowKit Go.Maps

/-- The map D with the first k names struck. -/
def dels (D : DataW Unit) (N : List ByteArray) : Nat → DataW Unit
  | 0 => D
  | k + 1 => (dels D N k).del (key (nm N k))

theorem dels_tidy {D : DataW Unit} (N : List ByteArray) (h : Tidy D) : ∀ k, Tidy (dels D N k)
  | 0 => h
  | k + 1 => (dels_tidy N h k).del _

theorem dels_has (D : DataW Unit) (N : List ByteArray) (x : ByteArray) : ∀ k, has (dels D N k) (key x) = true ↔ has D (key x) = true ∧ ¬ ∃ i, i < k ∧ nm N i = x
  | 0 => by
    constructor
    · intro h; exact ⟨h, fun ⟨i, h, _⟩ => absurd h (by omega)⟩
    · exact fun h => h.1
  | k + 1 => by
    rw [dels]
    by_cases e : nm N k = x
    · subst e
      rw [has_del_same]
      constructor
      · intro h; cases h
      · rintro ⟨_, h⟩; exact absurd ⟨k, by omega, rfl⟩ h
    · rw [has_del_other (fun h => e (key_inj h).symm), dels_has D N x k]
      constructor
      · rintro ⟨h1, h2⟩
        refine ⟨h1, ?_⟩
        rintro ⟨i, hi, e'⟩
        rcases Nat.lt_succ_iff_lt_or_eq.1 hi with hi | rfl
        · exact h2 ⟨i, hi, e'⟩
        · exact e e'
      · rintro ⟨h1, h2⟩
        exact ⟨h1, fun ⟨i, hi, e'⟩ => h2 ⟨i, by omega, e'⟩⟩

theorem dels_size (N V : List ByteArray) : ∀ k, k ≤ N.length → size (dels (fill N V N.length) N k) + lasts ((txt N).take k) = lasts (txt N)
  | 0, _ => by rw [dels, List.take_zero, lasts, size_all, Nat.add_zero]
  | k + 1, h => by
    have ih := dels_size N V k (by omega)
    have hl := txt_length N
    have ht := dels_tidy N (fill_tidy N V N.length) k
    have hs := size_del (k := key (nm N k)) ht
    rw [dels, List.take_succ_eq_append_getElem (by omega), lasts_snoc, txt_at]
    have hin : has (fill N V N.length) (key (nm N k)) = true := (fill_has N V _ _).2 ⟨k, by omega, rfl⟩
    by_cases hm : (nm N k).data.toList ∈ (txt N).take k
    · rw [if_pos hm]
      have hh : ¬ has (dels (fill N V N.length) N k) (key (nm N k)) = true := fun h' => ((dels_has _ N _ k).1 h').2 ((mem_take (by omega)).1 hm)
      rw [if_neg hh] at hs
      omega
    · rw [if_neg hm]
      have hh : has (dels (fill N V N.length) N k) (key (nm N k)) = true := (dels_has _ N _ k).2 ⟨hin, fun h' => hm ((mem_take (by omega)).2 h')⟩
      rw [if_pos hh] at hs
      omega

theorem dels_empty (N V : List ByteArray) : dels (fill N V N.length) N N.length = .map [] := by
  have h := dels_size N V N.length (Nat.le_refl _)
  rw [List.take_of_length_le (by rw [txt_length]; exact Nat.le_refl _)] at h
  obtain ⟨es, he, _⟩ := dels_tidy N (fill_tidy N V N.length) N.length
  rw [he] at h ⊢
  rw [size_eq] at h
  rw [List.eq_nil_of_length_eq_zero (show es.length = 0 by omega)]

def zz : ByteArray := { data := #[122, 122] }
/-- The first map at the end: one key. -/
def one (s : ByteArray) : DataW Unit := (DataW.map []).put (key s) (.lit (.string zz.data.toList))

theorem one_size (s : ByteArray) : size (one s) = 1 := by
  unfold one
  rw [size_put tidy_empty]
  rfl

theorem one_at (s : ByteArray) (z : DataW Unit) : (one s).atKey (key s) z = .lit (.string zz.data.toList) := atKey_put_same isMap_empty (key_ok s) _ _

theorem ownsRow_below {w w' : World} {base : Nat} {e : TypeId} {sz n : Nat} {v : Value} {xs : List Value} (h : w.ownsRow base e sz v n xs) (hb : Below w.heap.size w w') : w'.ownsRow base e sz v n xs := by
  refine ⟨h.1, ?_⟩
  rcases h.2 with h0 | ⟨g, cap, cur, hv, hg, hh, r⟩
  · exact .inl h0
  · exact .inr ⟨g, cap, cur, hv, hg, (hb.block g (lt_of_block hh)).trans hh, r⟩

/-- What 'm[x]' gives where the map holds v at x. -/
theorem look_plain {w : World} {M n : Nat} {D : DataW Unit} (h : w.ownsMap Try.prog 9 (plainElem Try.prog 9) M n D) {x v : ByteArray} (hx : x.size ≤ maxLen) (ha : ∀ z, D.atKey (key x) z = .lit (.string v.data.toList)) :
    (Instr.lookup 28 (.map (some M)) (.string x) false).run Try.prog w = .ok (.string v) w := by
  obtain ⟨u, ps, hrun, hu⟩ := h.lookup law Try.underlying28 (zero9 w) (plainElem_string (H := Unit) Try.underlying9 (s := ByteArray.empty) (by decide)) (WideMaps.keyOf_string_mk Try.underlying9 hx)
  obtain ⟨s, rfl, hs, _⟩ := plainElem_string_inv Try.underlying9 hu
  have e : (DataW.lit (Lit.string v.data.toList) : DataW Unit) = .lit (.string s.data.toList) := by
    have := congrArg Prod.fst hs
    rw [show (Lit.string x.data.toList) = key x from rfl, ha] at this
    exact this
  have e' : v.data.toList = s.data.toList := by injection e with e; injection e
  rw [← bytes_ext e'] at hrun
  exact hrun

/-- What 'v, ok := m[x]' gives where x is there. -/
theorem look_has {w : World} {M n : Nat} {D : DataW Unit} (h : w.ownsMap Try.prog 9 (plainElem Try.prog 9) M n D) {x : ByteArray} (hx : x.size ≤ maxLen) (hh : has D (key x) = true) :
    ∃ v, ∀ q, (Instr.lookup 28 (.map (some M)) (.string x) true).run Try.prog (w.drewN q) = .ok (.tuple #[.string v, .bool true]) (w.drewN q) := by
  have all : ∀ q, ∃ v : ByteArray, (Instr.lookup 28 (.map (some M)) (.string x) true).run Try.prog (w.drewN q) = .ok (.tuple #[.string v, .bool true]) (w.drewN q) ∧ D.atKey (.string x.data.toList) (.lit (.string ByteArray.empty.data.toList)) = .lit (.string v.data.toList) := by
    intro q
    have hq : (w.drewN q).ownsMap Try.prog 9 (plainElem Try.prog 9) M n D := h
    obtain ⟨u, ps, hrun, hu⟩ := hq.look_ok law Try.underlying28 (zero9 _) (plainElem_string (H := Unit) Try.underlying9 (s := ByteArray.empty) (by decide)) (WideMaps.keyOf_string_mk Try.underlying9 hx)
    obtain ⟨s, rfl, hs, _⟩ := plainElem_string_inv Try.underlying9 hu
    rw [show has D (Lit.string x.data.toList) = true from hh] at hrun
    exact ⟨s, hrun, congrArg Prod.fst hs⟩
  obtain ⟨v, _, hv⟩ := all 0
  refine ⟨v, fun q => ?_⟩
  obtain ⟨v', hrun, hv'⟩ := all q
  rw [hv] at hv'
  have e' : v.data.toList = v'.data.toList := by injection hv' with e; injection e
  rw [bytes_ext e']
  exact hrun

/-- The round of the emptying loop. -/
theorem del_next {w1 wr w5 : World} {A M n k : Nat} {s : ByteArray} {a : Nat} {l : Int} {N : List ByteArray} {D : DataW Unit} {xk : ByteArray} (HE : SeriesAt wr A s (.map (some M)) a l) (hA : M < A) (HB : Below w1.heap.size w1 wr) (hM : w1.heap.size < M)
    (HO : w5.ownsMap Try.prog 9 (plainElem Try.prog 9) M n ((dels D N k).del (.string xk.data.toList))) (HT : wr.drew.mapTurned w5 M) (hxk : xk = nm N k) :
    SeriesAt w5 A s (.map (some M)) a l ∧ w5.ownsMap Try.prog 9 (plainElem Try.prog 9) M n (dels D N (k + 1)) ∧ Below w1.heap.size w1 w5 := by
  subst hxk
  exact ⟨HE.drew.grown HT.grown (by simp; omega), HO, HB.drew.grown HT.grown HB.drew.size (fun j hj => by cases hj; omega)⟩

/-- What is there behind the second Series: the first one with its one key, the second with all. -/
def Late (w wr : World) (A M B M2 : Nat) (s : ByteArray) (a : Nat) (l : Int) (n : Nat) (N V : List ByteArray) (a4 a5 : Option Addr) : Prop :=
  SeriesAt wr A s (.map (some M)) a l ∧ wr.ownsMap Try.prog 9 (plainElem Try.prog 9) M (n + 1) (one s) ∧ SeriesAt wr B s (.map (some M2)) a l ∧ Stage w wr M2 n N V a4 a5

theorem Late.drewN {w wr : World} {A M B M2 : Nat} {s : ByteArray} {a : Nat} {l : Int} {n : Nat} {N V : List ByteArray} {a4 a5 : Option Addr} (h : Late w wr A M B M2 s a l n N V a4 a5) (q : Nat) : Late w (wr.drewN q) A M B M2 s a l n N V a4 a5 :=
  ⟨h.1, h.2.1, h.2.2.1, h.2.2.2.drewN q⟩

theorem ownsMap_below {w w' : World} {M n : Nat} {D : DataW Unit} (h : w.ownsMap Try.prog 9 (plainElem Try.prog 9) M n D) (hb : Below w.heap.size w w') : w'.ownsMap Try.prog 9 (plainElem Try.prog 9) M n D := by
  obtain ⟨es, clock, hh, r⟩ := h
  exact ⟨es, clock, (hb.block M (lt_of_block hh)).trans hh, r⟩

theorem late_start {w w1 w5 w6 : World} {A M M2 : Nat} {s : ByteArray} {a : Nat} {l : Int} {n : Nat} {N V : List ByteArray} {a4 a5 : Option Addr} (HA : SeriesAt w5 A s (.map (some M)) a l) (HM : w5.ownsMap Try.prog 9 (plainElem Try.prog 9) M (n + 1) (one s))
    (HB5 : Below w1.heap.size w1 w5) (HS : Strs w1 a4 n N) (HV : Strs w1 a5 n V) (HBW : Below w.heap.size w w1) (hM2 : w6.ownsMap Try.prog 9 (plainElem Try.prog 9) M2 n (fill N V n)) (hb6 : Below w5.heap.size w5 w6) :
    Late w (w6.alloc (.cells #[.string s, .map (some M2), .float .f64 a, .int .i64 l] 30)) A M w6.heap.size M2 s a l n N V a4 a5 := by
  have h16 : Below w1.heap.size w1 w6 := HB5.trans (hb6.mono HB5.size)
  refine ⟨(HA.below hb6 HA.lt).alloc _, ?_, heap_alloc_new w6 _, Stage.alloc ⟨HS.below (Nat.le_refl _) h16, HV.below (Nat.le_refl _) h16, hM2, HBW.trans (h16.mono HBW.size)⟩ _⟩
  exact World.ownsMap.alloc (ownsMap_below HM hb6) _

end Go.Proofs.Qxb6630595a
